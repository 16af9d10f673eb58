import PyProof.Rows.All
import Wide.All
import OpenK.AllK
import Wide.FinOn
import PySem.Challenge.RW_ik0023_01
set_option Elab.async false
section
set_option autoImplicit false
namespace Mine
def lead (u : Nat) (l : List Nat) : Nat := (l.takeWhile (· == u)).length
def trail (u : Nat) (l : List Nat) : Nat := lead u l.reverse
def more (u : Nat) (l : List Nat) : Bool := l.any (· != u)
theorem lead_eq {u : Nat} {l : List Nat} : lead u (u :: l) = lead u l + 1 := by simp [lead]
theorem lead_ne {u a : Nat} {l : List Nat} (h : a ≠ u) : lead u (a :: l) = 0 := by simp [lead, h]
theorem lead_lt {u : Nat} : ∀ {l : List Nat}, more u l = true → lead u l < l.length
  | [], h => by simp [more] at h
  | a :: r, h => by
    by_cases ha : a = u
    · subst ha
      rw [lead_eq, List.length_cons]
      have : more a r = true := by simpa [more] using h
      have := lead_lt this
      omega
    · rw [lead_ne ha]; simp
theorem lead_append {u : Nat} {b : List Nat} : ∀ {a : List Nat}, more u a = true → lead u (a ++ b) = lead u a
  | [], h => by simp [more] at h
  | c :: r, h => by
    by_cases hc : c = u
    · subst hc
      rw [List.cons_append, lead_eq, lead_eq, lead_append (by simpa [more] using h)]
    · rw [List.cons_append, lead_ne hc, lead_ne hc]
theorem more_rev {u : Nat} {l : List Nat} : more u l.reverse = more u l := by simp [more]
theorem lead_trail {u : Nat} : ∀ {l : List Nat}, more u l = true → lead u l + trail u l < l.length
  | [], h => by simp [more] at h
  | a :: r, h => by
    by_cases ha : a = u
    · subst ha
      have h1 : more a r = true := by simpa [more] using h
      have := lead_trail h1
      unfold trail at *
      rw [lead_eq, List.reverse_cons, lead_append (by rw [more_rev]; exact h1), List.length_cons]
      omega
    · have := lead_lt (u := u) (l := (a :: r).reverse) (by rw [more_rev]; exact h)
      unfold trail
      rw [lead_ne ha]
      simpa using this
def dunderL (u : Nat) (z : List Nat) : Bool := decide (4 < z.length) && ((z.take 2 == (z.reverse.take 2).reverse) && ((z.reverse.take 2).reverse == [u, u])) && (z.getD 2 0 != u) && (z.reverse.getD 2 0 != u)
def sunderL (u : Nat) (z : List Nat) : Bool := decide (2 < z.length) && ((z.getD 0 0 == z.reverse.getD 0 0) && (z.reverse.getD 0 0 == u)) && (z.getD 1 0 != u) && (z.reverse.getD 1 0 != u)
theorem cons3 : ∀ {z : List Nat}, 3 ≤ z.length → ∃ a b c r, z = a :: b :: c :: r
  | a :: b :: c :: r, _ => ⟨a, b, c, r, rfl⟩
  | [], h => by simp at h
  | [_], h => by simp at h
  | [_, _], h => by simp at h
theorem cons2 : ∀ {z : List Nat}, 2 ≤ z.length → ∃ a b r, z = a :: b :: r
  | a :: b :: r, _ => ⟨a, b, r, rfl⟩
  | [], h => by simp at h
  | [_], h => by simp at h
theorem lead_two {u a b c : Nat} {r : List Nat} : (lead u (a :: b :: c :: r) == 2) = ((a == u) && (b == u) && (c != u)) := by
  by_cases h1 : a = u
  · by_cases h2 : b = u
    · by_cases h3 : c = u
      · subst h1; subst h2; subst h3
        rw [lead_eq, lead_eq, lead_eq]
        simp
      · subst h1; subst h2
        rw [lead_eq, lead_eq, lead_ne h3]
        simp [h3]
    · subst h1
      rw [lead_eq, lead_ne h2]
      simp [h2]
  · rw [lead_ne h1]
    simp [h1]
theorem lead_one {u a b : Nat} {r : List Nat} : (lead u (a :: b :: r) == 1) = ((a == u) && (b != u)) := by
  by_cases h1 : a = u
  · by_cases h2 : b = u
    · subst h1; subst h2
      rw [lead_eq, lead_eq]
      simp
    · subst h1
      rw [lead_eq, lead_ne h2]
      simp [h2]
  · rw [lead_ne h1]
    simp [h1]
theorem lead_lt2 {u a b : Nat} {r : List Nat} : decide (lead u (a :: b :: r) < 2) = ((a != u) || (b != u)) := by
  by_cases h1 : a = u
  · by_cases h2 : b = u
    · subst h1; subst h2
      rw [lead_eq, lead_eq]
      simp
    · subst h1
      rw [lead_eq, lead_ne h2]
      simp [h2]
  · rw [lead_ne h1]
    simp [h1]
theorem dunder_is {u : Nat} {z : List Nat} : dunderL u z = (more u z && (lead u z == 2) && (trail u z == 2)) := by
  by_cases hl : 4 < z.length
  · obtain ⟨a, b, c, r, e⟩ := cons3 (z := z) (by omega)
    obtain ⟨a', b', c', r', e'⟩ := cons3 (z := z.reverse) (by rw [List.length_reverse]; omega)
    have hm : (c != u) = true → more u z = true := fun h => by rw [e]; simp only [more, List.any_cons, h, Bool.true_or, Bool.or_true]
    unfold dunderL trail
    rw [decide_eq_true hl, e', e, lead_two, lead_two]
    rw [e] at hm
    rw [Bool.eq_iff_iff]
    simp only [List.take, List.reverse_cons, List.reverse_nil, List.nil_append, List.cons_append, List.getD_cons_succ, List.getD_cons_zero, Bool.and_eq_true, beq_iff_eq, List.cons.injEq, and_true, true_and, bne_iff_ne, ne_eq] at hm ⊢
    constructor
    · rintro ⟨⟨⟨⟨h1, h2⟩, h3, h4⟩, h5⟩, h6⟩
      exact ⟨⟨hm h5, ⟨h1.trans h3, h2.trans h4⟩, h5⟩, ⟨h4, h3⟩, h6⟩
    · rintro ⟨⟨h0, ⟨h1, h2⟩, h3⟩, ⟨h4, h5⟩, h6⟩
      exact ⟨⟨⟨⟨h1.trans h5.symm, h2.trans h4.symm⟩, h5, h4⟩, h3⟩, h6⟩
  · unfold dunderL
    rw [decide_eq_false hl]
    cases h : (more u z && (lead u z == 2) && (trail u z == 2)) with
    | false => simp
    | true =>
      rw [Bool.and_eq_true, Bool.and_eq_true, beq_iff_eq, beq_iff_eq] at h
      have := lead_trail h.1.1
      omega
theorem sunder_is {u : Nat} {z : List Nat} : sunderL u z = (more u z && (lead u z == 1) && (trail u z == 1)) := by
  by_cases hl : 2 < z.length
  · obtain ⟨a, b, r, e⟩ := cons2 (z := z) (by omega)
    obtain ⟨a', b', r', e'⟩ := cons2 (z := z.reverse) (by rw [List.length_reverse]; omega)
    have hm : (b != u) = true → more u z = true := fun h => by rw [e]; simp only [more, List.any_cons, h, Bool.true_or, Bool.or_true]
    unfold sunderL trail
    rw [decide_eq_true hl, e', e, lead_one, lead_one]
    rw [e] at hm
    rw [Bool.eq_iff_iff]
    simp only [List.getD_cons_succ, List.getD_cons_zero, Bool.and_eq_true, beq_iff_eq, true_and, bne_iff_ne, ne_eq] at hm ⊢
    constructor
    · rintro ⟨⟨⟨h1, h2⟩, h3⟩, h4⟩
      exact ⟨⟨hm h3, h1.trans h2, h3⟩, h2, h4⟩
    · rintro ⟨⟨h0, h1, h2⟩, h3, h4⟩
      exact ⟨⟨⟨h1.trans h3.symm, h3⟩, h2⟩, h4⟩
  · unfold sunderL
    rw [decide_eq_false hl]
    cases h : (more u z && (lead u z == 1) && (trail u z == 1)) with
    | false => simp
    | true =>
      rw [Bool.and_eq_true, Bool.and_eq_true, beq_iff_eq, beq_iff_eq] at h
      have := lead_trail h.1.1
      omega
/-- signs written each for itself, blanks alone as 95 -/
structure Writes (g : Nat → List Nat) : Prop where
  blank : g 32 = [95]
  free : ∀ c, c < 256 → c ≠ 32 → 95 ∉ g c
  ne : ∀ c, c < 256 → g c ≠ []
structure Reads (g : Nat → List Nat) : Prop extends Writes g where
  pre : ∀ a b : Nat, a < 256 → b < 256 → ∀ s t, g a ++ s <+: g b ++ t → a = b ∧ s <+: t
theorem Writes.rev {g : Nat → List Nat} (G : Writes g) : Writes (List.reverse ∘ g) :=
  ⟨by show (g 32).reverse = _; rw [G.blank]; rfl, fun c h1 h2 h3 => G.free c h1 h2 (List.mem_reverse.mp h3), fun c h1 h2 => G.ne c h1 (List.reverse_eq_nil_iff.mp h2)⟩
theorem lead_flat {g : Nat → List Nat} (G : Writes g) : ∀ {l : List Nat}, (∀ c ∈ l, c < 256) → lead 95 (l.flatMap g) = lead 32 l
  | [], _ => rfl
  | c :: l, h => by
    have ih := lead_flat G (l := l) fun c hc => h c (.tail _ hc)
    have hc := h c (.head _)
    rw [List.flatMap_cons]
    by_cases e : c = 32
    · subst e
      rw [G.blank, List.singleton_append, lead_eq, lead_eq, ih]
    · cases hg : g c with
      | nil => exact absurd hg (G.ne c hc)
      | cons a r =>
        have : a ≠ 95 := fun e2 => G.free c hc e (by rw [hg, e2]; exact .head _)
        rw [List.cons_append, lead_ne this, lead_ne e]
theorem trail_flat {g : Nat → List Nat} (G : Writes g) {l : List Nat} (h : ∀ c ∈ l, c < 256) : trail 95 (l.flatMap g) = trail 32 l := by
  unfold trail
  rw [List.reverse_flatMap]
  exact lead_flat G.rev fun c hc => h c (List.mem_reverse.mp hc)
theorem more_flat {g : Nat → List Nat} (G : Writes g) : ∀ {l : List Nat}, (∀ c ∈ l, c < 256) → more 95 (l.flatMap g) = more 32 l
  | [], _ => rfl
  | c :: l, h => by
    have ih := more_flat G (l := l) fun c hc => h c (.tail _ hc)
    have hc := h c (.head _)
    unfold more at *
    rw [List.flatMap_cons, List.any_append, List.any_cons, ih]
    congr 1
    by_cases e : c = 32
    · subst e
      rw [G.blank]; rfl
    · cases hg : g c with
      | nil => exact absurd hg (G.ne c hc)
      | cons a r =>
        have : a ≠ 95 := fun e2 => G.free c hc e (by rw [hg, e2]; exact .head _)
        rw [List.any_cons, bne_iff_ne.mpr this, bne_iff_ne.mpr e]
        rfl
theorem pre_flat {g : Nat → List Nat} (G : Reads g) : ∀ {f l : List Nat}, (∀ c ∈ f, c < 256) → (∀ c ∈ l, c < 256) → f.flatMap g <+: l.flatMap g → f <+: l
  | [], _, _, _, _ => List.nil_prefix
  | a :: f, [], hf, _, h => by
    rw [List.flatMap_cons, List.flatMap_nil, List.prefix_nil] at h
    exact absurd (List.append_eq_nil_iff.mp h).1 (G.ne a (hf a (.head _)))
  | a :: f, b :: l, hf, hl, h => by
    rw [List.flatMap_cons, List.flatMap_cons] at h
    obtain ⟨rfl, h2⟩ := G.pre a b (hf a (.head _)) (hl b (.head _)) _ _ h
    exact (List.prefix_cons_inj a).mpr (pre_flat G (fun c hc => hf c (.tail _ hc)) (fun c hc => hl c (.tail _ hc)) h2)
theorem flat_pos {g : Nat → List Nat} (G : Reads g) : ∀ {t : List Nat}, (∀ c ∈ t, c < 256) → (0 < (t.flatMap g).length ↔ 0 < t.length)
  | [], _ => by simp
  | a :: t, h => by
    have := List.length_pos_iff.mpr (G.ne a (h a (.head _)))
    rw [List.flatMap_cons, List.length_append, List.length_cons]
    omega
def privL (u : Nat) (pv z : List Nat) : Bool := decide (pv.length < z.length) && pv.isPrefixOf z && ((z.reverse.getD 0 0 != u) || (z.reverse.getD 1 0 != u))
theorem priv_is {g : Nat → List Nat} (G : Reads g) {f l : List Nat} (hf : ∀ c ∈ f, c < 256) (hl : ∀ c ∈ l, c < 256) (h2 : 2 ≤ f.length) :
    privL 95 (f.flatMap g) (l.flatMap g) = ((l.take f.length == f) && decide (f.length < l.length) && decide (trail 32 l < 2)) := by
  by_cases hp : f <+: l
  · obtain ⟨t, rfl⟩ := hp
    have e1 : (f.flatMap g).isPrefixOf ((f ++ t).flatMap g) = true := by
      rw [List.isPrefixOf_iff_prefix, List.flatMap_append]
      exact List.prefix_append _ _
    have ht : ∀ c ∈ t, c < 256 := fun c hc => hl c (List.mem_append.mpr (.inr hc))
    have hp2 := flat_pos G ht
    unfold privL
    rw [e1]
    have e2 : ((f ++ t).take f.length == f) = true := by simp
    rw [e2]
    have e3 : decide ((f.flatMap g).length < ((f ++ t).flatMap g).length) = decide (f.length < (f ++ t).length) := by
      rw [decide_eq_decide, List.flatMap_append, List.length_append, List.length_append]
      omega
    rw [e3]
    by_cases h3 : f.length < (f ++ t).length
    · have e4 : 2 ≤ ((f ++ t).flatMap g).reverse.length := by
        rw [List.length_reverse, List.flatMap_append, List.length_append]
        have : f.length ≤ (f.flatMap g).length := by
          clear hp2 h2 e1 e2 e3 h3 ht hl
          induction f with
          | nil => simp
          | cons a f ih =>
            have h5 := ih fun c hc => hf c (.tail _ hc)
            have h6 := List.length_pos_iff.mpr (G.ne a (hf a (.head _)))
            rw [List.flatMap_cons, List.length_append, List.length_cons]
            omega
        omega
      obtain ⟨a, b, r, e5⟩ := cons2 e4
      rw [← trail_flat G.toWrites hl]
      unfold trail
      rw [e5, lead_lt2, decide_eq_true h3]
      rfl
    · rw [decide_eq_false h3]; rfl
  · have e1 : (f.flatMap g).isPrefixOf (l.flatMap g) = false := by
      cases h : (f.flatMap g).isPrefixOf (l.flatMap g) with
      | false => rfl
      | true => exact absurd (pre_flat G hf hl (List.isPrefixOf_iff_prefix.mp h)) hp
    have e2 : (l.take f.length == f) = false := by
      cases h : (l.take f.length == f) with
      | false => rfl
      | true =>
        rw [beq_iff_eq] at h
        exact absurd (h ▸ List.take_prefix _ _) hp
    unfold privL
    rw [e1, e2]
    simp
end Mine
end
section
open PySem PySem.W PyProof.Rows
set_option autoImplicit false
namespace Mine
open PySem.Sre

/-- the pattern's words -/
def code : Array Nat := #[14, 8, 1, 3, 3, 1, 1, 61, 0, 16, 61, 24, 16, 2, 2, 13, 11, 9, 0, 67043328, 126, 126, 0, 0, 0, 0, 0, 1, 1]

theorem step_done {m : M} (h : m.outcome.isSome = true) : m.step = m := by
  unfold M.step; rw [if_pos h]

theorem runFor_zero (m : M) : M.runFor 0 m = m := rfl
theorem runFor_succ (n : Nat) (m : M) : M.runFor (n + 1) m = M.runFor n m.step := by
  show (if m.outcome.isSome then m else M.runFor n m.step) = _
  split
  · rename_i h
    rw [step_done h]
    induction n with
    | zero => rfl
    | succ n ih => show m = (if m.outcome.isSome then m else M.runFor n m.step); rw [if_pos h]
  · rfl
theorem runFor_done {m : M} (h : m.outcome.isSome = true) (n : Nat) : M.runFor n m = m := by
  cases n with
  | zero => rfl
  | succ n => show (if m.outcome.isSome then m else M.runFor n m.step) = m; rw [if_pos h]
theorem runFor_add (a b : Nat) (m : M) : M.runFor (a + b) m = M.runFor b (M.runFor a m) := by
  induction a generalizing m with
  | zero => rw [Nat.zero_add, runFor_zero]
  | succ a ih => rw [Nat.succ_add, runFor_succ, runFor_succ, ih]

section
variable {Mo : Model} {A : Around} {E : Value → Shared → Prop} {s : Shared}
open PySem.Builtin.Re
theorem wp_reDrive {Q : M → Shared → Prop} : ∀ (T k : Nat) (m : M), k ≤ 4 * T → 0 < T → (M.runFor k m).outcome.isSome = true → Q (M.runFor k m) s → wpAny Mo A (reDrive T m) Q E s := by
  intro T
  induction T with
  | zero => intro k m _ h; exact absurd h (Nat.lt_irrefl _)
  | succ T ih =>
    intro k m hk _ ho hQ
    show wpAny Mo A (if (M.runFor reTurnSteps m).outcome.isSome then pure (M.runFor reTurnSteps m) else (do rule "sre.turn"; reDrive T (M.runFor reTurnSteps m))) Q E s
    have e4 : reTurnSteps = 4 := rfl
    rw [e4]
    by_cases h4 : (M.runFor 4 m).outcome.isSome = true
    · rw [if_pos h4]
      have : M.runFor k m = M.runFor 4 m := by
        by_cases hle : k ≤ 4
        · obtain ⟨d, hd⟩ := Nat.exists_eq_add_of_le hle
          rw [hd, runFor_add, runFor_done ho]
        · obtain ⟨d, hd⟩ := Nat.exists_eq_add_of_le (Nat.le_of_not_le hle)
          rw [hd, runFor_add, runFor_done h4]
      rw [this] at hQ
      exact wpAny_pure hQ
    · rw [if_neg h4]
      have hgt : 4 < k := by
        apply Nat.lt_of_not_le
        intro hle
        obtain ⟨d, hd⟩ := Nat.exists_eq_add_of_le hle
        rw [hd, runFor_add, runFor_done ho] at h4
        exact h4 ho
      obtain ⟨d, hd⟩ := Nat.exists_eq_add_of_le (Nat.le_of_lt hgt)
      rw [hd, runFor_add] at ho hQ
      refine wpAny_bind (wpAny_rule ?_)
      exact ih d _ (by omega) (by omega) ho hQ

theorem wp_rules {f : Nat → Bool} {g : Nat → String} {Q : PUnit → Shared → Prop} : ∀ (l : List Nat), Q PUnit.unit s →
    wpAny Mo A (forIn l PUnit.unit fun i (_ : PUnit) => (if f i = true then (rule (g i) >>= fun _ => pure (ForInStep.yield PUnit.unit)) else pure (ForInStep.yield PUnit.unit) : Sem (ForInStep PUnit))) Q E s := by
  intro l hQ
  induction l with
  | nil => exact wpAny_pure hQ
  | cons a l ih =>
    rw [List.forIn_cons]
    refine wpAny_bind ?_
    by_cases h : f a = true
    · rw [if_pos h]; refine wpAny_bind (wpAny_rule ?_); exact wpAny_pure ih
    · rw [if_neg h]; refine wpAny_pure ?_; exact ih

theorem wp_reRunToEnd_matched {Q : Option M → Shared → Prop} {k : Nat} {m : M} (hk : k ≤ 4 * 2 ^ 64) (ho : (M.runFor k m).outcome = some .matched) (hQ : Q (some (M.runFor k m)) s) :
    wpAny Mo A (reRunToEnd m) Q E s := by
  unfold reRunToEnd
  refine wpAny_bind (wp_reDrive (2 ^ 64) k m hk (Nat.two_pow_pos 64) (by rw [ho]; rfl) ?_)
  refine wpAny_bind (wp_rules _ ?_)
  rw [ho]
  exact wpAny_pure hQ
theorem wp_reRunToEnd_failed {Q : Option M → Shared → Prop} {k : Nat} {m : M} (hk : k ≤ 4 * 2 ^ 64) (ho : (M.runFor k m).outcome = some .failed) (hQ : Q none s) :
    wpAny Mo A (reRunToEnd m) Q E s := by
  unfold reRunToEnd
  refine wpAny_bind (wp_reDrive (2 ^ 64) k m hk (Nat.two_pow_pos 64) (by rw [ho]; rfl) ?_)
  refine wpAny_bind (wp_rules _ ?_)
  rw [ho]
  exact wpAny_pure hQ
end
end Mine
end
section
open PySem PySem.W PyProof.Rows
set_option autoImplicit false
namespace Mine
open PySem.Sre

def st (t : Array Nat) (s : Nat) (first must : Bool) (seen : Sre.Seen) : M :=
  { code := code, text := t, lim := t.size, start := s, lastStart := t.size, mustAdvance := must, pc := 9, pos := s, handed := s, outermost := first, marks := #[],
    frames := [{ wait := .nextStart, pc := 9, pos := s, outermost := first }], weight := 1, seen := seen }
def st2 (t : Array Nat) (s : Nat) (first must : Bool) (seen : Sre.Seen) : M := { st t s first must seen with pc := 11, pos := s + 1, seen := seen }
def st3 (t : Array Nat) (s : Nat) (first must : Bool) (seen : Sre.Seen) : M := { st t s first must seen with pc := 28, pos := s + 3, handed := s + 3, frames := [{ wait := .giveBack, pc := 11, pos := s + 3, outermost := first, count := 2 }, { wait := .nextStart, pc := 9, pos := s, outermost := first }], weight := 2, seen := seen }
def no (t : Array Nat) (s : Nat) (first must : Bool) (seen : Sre.Seen) (pc pos : Nat) : M := { st t s first must seen with pc := pc, pos := pos, seen := seen, answer := some false }

theorem st_step {t : Array Nat} {s : Nat} {first must : Bool} {seen : Sre.Seen} : (st t s first must seen).step =
    if s ≥ t.size then no t s first must (seen.add 16) 9 s else if t.getD s 0 = 61 then st2 t s first must (seen.add 16) else no t s first must (seen.add 16) 9 s := by
  have e : (st t s first must seen).step = (if s ≥ t.size then no t s first must (seen.add 16) 9 s else
      match (Except.ok (t.getD s 0 == 61, seen.add 16) : Except String (Bool × Sre.Seen)) with
      | .error why => (no t s first must (seen.add 16) 9 s).stick why
      | .ok (false, seen') => no t s first must seen' 9 s
      | .ok (true, seen') => st2 t s first must seen') := by kernel_rfl
  rw [e]
  by_cases h : s ≥ t.size
  · rw [if_pos h, if_pos h]
  · rw [if_neg h, if_neg h]
    by_cases h2 : t.getD s 0 = 61
    · rw [if_pos h2, h2]; rfl
    · rw [if_neg h2]
      have : (t.getD s 0 == 61) = false := by simpa using h2
      rw [this]
theorem no_step {t : Array Nat} {s : Nat} {first must : Bool} {seen : Sre.Seen} {pc pos : Nat} (h : s < t.size) : (no t s first must seen pc pos).step = st t (s + 1) false false seen := by
  have e : (no t s first must seen pc pos).step = if s < t.size then st t (s + 1) false false seen else { st t s first must seen with frames := [], weight := 0, answer := some false, handed := s } := rfl
  rw [e, if_pos h]
theorem no_end {t : Array Nat} {s : Nat} {first must : Bool} {seen : Sre.Seen} {pc pos : Nat} (h : ¬ s < t.size) : (no t s first must seen pc pos).step.step.outcome = some .failed := by
  have e : (no t s first must seen pc pos).step = if s < t.size then st t (s + 1) false false seen else { st t s first must seen with frames := [], weight := 0, answer := some false } := rfl
  rw [e, if_neg h]
  rfl

/-- the figures of the pattern's set that the law's words hold -/
def hexc (c : Nat) : Bool := (48 ≤ c && c ≤ 57) || (65 ≤ c && c ≤ 70)
theorem hexc_in : ∀ c, c < 71 → hexc c = true → (c < 256 && (code.getD (17 + (1 + c / 32)) 0).testBit (c % 32)) = true := by decide +kernel
theorem hexc_lt {c : Nat} (h : hexc c = true) : c < 71 := by
  simp only [hexc, Bool.or_eq_true, Bool.and_eq_true, decide_eq_true_eq] at h
  omega
theorem accepts_hex {c : Nat} (h : hexc c = true) (seen : Sre.Seen) : accepts code 15 c seen = .ok (true, seen.add 9) := by
  have e : accepts code 15 c seen = if (c < 256 && (code.getD (17 + (1 + c / 32)) 0).testBit (c % 32)) = true then .ok (true, seen.add 9) else inSet code c 28 (17 + 9) true (seen.add 9) := by kernel_rfl
  rw [e, if_pos (hexc_in c (hexc_lt h) h)]
theorem run_hex {t : Array Nat} {p : Nat} {seen : Sre.Seen} (h1 : hexc (t.getD p 0) = true) (h2 : hexc (t.getD (p + 1) 0) = true) : Sre.run code t 15 2 p 0 seen = .ok (2, (seen.add 9).add 9) := by
  unfold Sre.run
  rw [accepts_hex h1]
  show Sre.run code t 15 1 (p + 1) 1 (seen.add 9) = _
  unfold Sre.run
  rw [accepts_hex h2]
  rfl
theorem st2_step {t : Array Nat} {s : Nat} {first must : Bool} {seen : Sre.Seen} (hs : s + 3 ≤ t.size) (h1 : hexc (t.getD (s + 1) 0) = true) (h2 : hexc (t.getD (s + 2) 0) = true) :
    (st2 t s first must seen).step = st3 t s first must ((((seen.add 24).add 13).add 9).add 9) := by
  have e : (st2 t s first must seen).step = (if (2 : Int) > (t.size : Int) - (s + 1 : Nat) then no t s first must (seen.add 24) 11 (s + 1) else
      match Sre.run code t 15 (min 2 ((t.size : Int) - (s + 1 : Nat)).toNat) (s + 1) 0 ((seen.add 24).add 13) with
      | .error why => ({ st2 t s first must seen with seen := seen.add 24 } : M).stick why
      | .ok (n, seen') =>
        let m : M := { st2 t s first must seen with seen := seen' }
        if n < 2 then m.say false else
        let m := { m with pos := m.pos + n }
        m.afterRun .giveBack n (m.keep m.inner.isSome)) := by kernel_rfl
  rw [e, if_neg (by omega), show min 2 ((t.size : Int) - (s + 1 : Nat)).toNat = 2 by omega, run_hex h1 h2]
  rfl
theorem st3_end {t : Array Nat} {s : Nat} {first must : Bool} {seen : Sre.Seen} : ∃ m, (st3 t s first must seen).step.step.step.step = m ∧ m.outcome = some .matched ∧ m.start = s ∧ m.handed = s + 3 ∧ m.marks = #[] ∧ m.lastmark = -1 ∧ m.lastindex = -1 := by
  have e : (st3 t s first must seen).step = if (first && ((false && (s + 3 != t.size)) || (must && s + 3 == s))) = true then { st3 t s first must seen with seen := seen.add 1, answer := some false } else { st3 t s first must seen with seen := seen.add 1, answer := some true } := by kernel_rfl
  have hc : (first && ((false && (s + 3 != t.size)) || (must && s + 3 == s))) = false := by
    have : (s + 3 == s) = false := by simp
    rw [this]; simp
  rw [e, hc, if_neg (by decide)]
  exact ⟨_, rfl, rfl, rfl, rfl, rfl, rfl, rfl⟩

/-- from the place s on the text has no sign = ahead of the place e, where one stands with two figures behind -/
theorem search_hit {t : Array Nat} {e : Nat} (he : e + 3 ≤ t.size) (h0 : t.getD e 0 = 61) (h1 : hexc (t.getD (e + 1) 0) = true) (h2 : hexc (t.getD (e + 2) 0) = true) :
    ∀ (d s : Nat) (first must : Bool) (seen : Sre.Seen), s + d = e → (∀ i, s ≤ i → i < e → t.getD i 0 ≠ 61) →
      ∃ m, M.runFor (2 * d + 6) (st t s first must seen) = m ∧ m.outcome = some .matched ∧ m.start = e ∧ m.handed = e + 3 ∧ m.marks = #[] ∧ m.lastmark = -1 ∧ m.lastindex = -1 := by
  intro d
  induction d with
  | zero =>
    intro s first must seen hs _
    have hs' : s = e := by omega
    subst hs'
    rw [show 2 * 0 + 6 = ((((((0 + 1) + 1) + 1) + 1) + 1) + 1) from rfl]
    simp only [runFor_succ, runFor_zero]
    rw [st_step, if_neg (by omega), if_pos h0, st2_step he h1 h2]
    exact st3_end
  | succ d ih =>
    intro s first must seen hs hno
    have hn := hno s (Nat.le_refl _) (by omega)
    rw [show 2 * (d + 1) + 6 = (2 * d + 6 + 1) + 1 by omega, runFor_succ, st_step, if_neg (by omega), if_neg hn, runFor_succ, no_step (by omega)]
    exact ih (s + 1) _ _ _ (by omega) fun i h h' => hno i (by omega) h'
theorem search_none {t : Array Nat} : ∀ (d s : Nat) (first must : Bool) (seen : Sre.Seen), s + d = t.size → (∀ i, s ≤ i → i < t.size → t.getD i 0 ≠ 61) →
      (M.runFor (2 * d + 3) (st t s first must seen)).outcome = some .failed := by
  intro d
  induction d with
  | zero =>
    intro s first must seen hs _
    rw [show 2 * 0 + 3 = (((0 + 1) + 1) + 1) from rfl]
    simp only [runFor_succ, runFor_zero]
    rw [st_step, if_pos (by omega), no_end (by omega)]
  | succ d ih =>
    intro s first must seen hs hno
    have hn := hno s (Nat.le_refl _) (by omega)
    rw [show 2 * (d + 1) + 3 = (2 * d + 3 + 1) + 1 by omega, runFor_succ, st_step, if_neg (by omega), if_neg hn, runFor_succ, no_step (by omega)]
    exact ih (s + 1) _ _ _ (by omega) fun i h h' => hno i (by omega) h'
theorem forSearch_eq' {t : Array Nat} {s : Nat} {must : Bool} : Sre.forSearch code t 0 s t.size must = if (decide (s > t.size) || decide (t.size - s < 3)) = true then { st t s true must (({} : Sre.Seen).add 14) with lastStart := 0, frames := [], weight := 0, answer := some false } else st t s true must (({} : Sre.Seen).add 14) := by
  kernel_rfl
theorem forSearch_eq {t : Array Nat} {s : Nat} {must : Bool} : Sre.forSearch code t 0 s t.size must = if s > t.size ∨ t.size - s < 3 then { st t s true must (({} : Sre.Seen).add 14) with lastStart := 0, frames := [], weight := 0, answer := some false } else st t s true must (({} : Sre.Seen).add 14) := by
  rw [forSearch_eq']
  simp only [Bool.or_eq_true, decide_eq_true_eq]
theorem search_short {m : M} (h1 : m.outcome = none) (h2 : m.answer = some false) (h3 : m.frames = []) : (M.runFor 1 m).outcome = some .failed := by
  rw [show 1 = 0 + 1 from rfl, runFor_succ, runFor_zero]
  unfold M.step
  rw [h1, h2, h3]
  rfl

section
variable {Mo : Model} {A : Around} {E : Value → Shared → Prop} {s : Shared}
open PySem.Builtin.Re
/-- what the search of the pattern finds, from the place a on -/
theorem wp_search_hit {t : Array Nat} {a e : Nat} {must : Bool} {Q : Option M → Shared → Prop} (hsz : t.size ≤ 2 ^ 60) (hae : a ≤ e) (he : e + 3 ≤ t.size) (h0 : t.getD e 0 = 61) (h1 : hexc (t.getD (e + 1) 0) = true) (h2 : hexc (t.getD (e + 2) 0) = true)
    (hno : ∀ i, a ≤ i → i < e → t.getD i 0 ≠ 61)
    (hQ : ∀ m, m.start = e → m.handed = e + 3 → m.marks = #[] → m.lastmark = -1 → m.lastindex = -1 → Q (some m) s) :
    wpAny Mo A (reRunToEnd (Sre.forSearch code t 0 a t.size must)) Q E s := by
  obtain ⟨m, hm, ho, a1, a2, a3, a4, a5⟩ := search_hit he h0 h1 h2 (e - a) a true must (({} : Sre.Seen).add 14) (by omega) hno
  have hf : Sre.forSearch code t 0 a t.size must = st t a true must (({} : Sre.Seen).add 14) := by
    rw [forSearch_eq, if_neg (by omega)]
  rw [hf]
  subst hm
  exact wp_reRunToEnd_matched (k := 2 * (e - a) + 6) (by omega) ho (hQ _ a1 a2 a3 a4 a5)
theorem wp_search_none {t : Array Nat} {a : Nat} {must : Bool} {Q : Option M → Shared → Prop} (hsz : t.size ≤ 2 ^ 60) (ha : a ≤ t.size) 
    (hno : ∀ i, a ≤ i → i < t.size → t.getD i 0 ≠ 61) (hQ : Q none s) :
    wpAny Mo A (reRunToEnd (Sre.forSearch code t 0 a t.size must)) Q E s := by
  by_cases hs : a > t.size ∨ t.size - a < 3
  · rw [forSearch_eq, if_pos hs]
    exact wp_reRunToEnd_failed (k := 1) (by decide) (search_short rfl rfl rfl) hQ
  · have hf : Sre.forSearch code t 0 a t.size must = st t a true must (({} : Sre.Seen).add 14) := by
      rw [forSearch_eq, if_neg hs]
    rw [hf]
    exact wp_reRunToEnd_failed (k := 2 * (t.size - a) + 3) (by omega) (search_none (t.size - a) a true must _ (by omega) hno) hQ
end
end Mine
end
section
open PySem PySem.W PyProof.Rows
set_option autoImplicit false
namespace Mine
section
variable {Mo : Model} {A : Around} {E : Value → Shared → Prop}

/-- a loop over a list, its state told by a word P, all else by a word S -/
theorem wp_forIn {σ α : Type} {f : α → σ → Sem (ForInStep σ)} (P : List α → σ → Prop) (S : Shared → Prop) {Q : σ → Shared → Prop} (l₀ : List α) :
    ∀ (l pre : List α) (st : σ) (s : Shared), l₀ = pre ++ l → P pre st → S s →
      (∀ (c : α) (pre post : List α) (st : σ) (s : Shared), l₀ = pre ++ c :: post → P pre st → S s → wpAny Mo A (f c st) (fun r s' => ∃ st', r = .yield st' ∧ P (pre ++ [c]) st' ∧ S s') E s) →
      (∀ (st : σ) (s : Shared), P l₀ st → S s → Q st s) → wpAny Mo A (forIn l st f) Q E s := by
  intro l
  induction l with
  | nil =>
    intro pre st s e hP hS _ hQ
    rw [List.append_nil] at e
    subst e
    exact wpAny_pure (hQ st s hP hS)
  | cons a l ih =>
    intro pre st s e hP hS hturn hQ
    rw [List.forIn_cons]
    refine wpAny_bind (wpAny_mono (hturn a pre l st s e hP hS) (fun r s' h => ?_) fun _ _ e => e)
    obtain ⟨st', rfl, hP', hS'⟩ := h
    exact ih (pre ++ [a]) st' s' (by rw [e, List.append_assoc]; rfl) hP' hS' hturn hQ

/-- a table: a list that holds a text for each octet -/
def TabOf (h : Heap) (a : Addr) (tab : Nat → Str) : Prop := ∃ vs : List Value, h.IsList a vs.toArray ∧ ∀ c, c < 256 → ∃ t, vs[c]? = some (.str (tab c) t)
end
section
variable {prog : Program} {w : World} {A : Around} {E : Value → Shared → Prop} {s : Shared} {a : Addr} {tab : Nat → Str}
open PySem.Builtin PySem.Builtin.Str
theorem wp_lookup {c : Nat} {Q : Mapped → Shared → Prop} (hT : TabOf s.heap a tab) (hc : c < 256) (h : ∀ k, Q (.text (tab c)) { s with toks := k }) :
    wpAny (model prog w) A (tableLookup (.ref a) c) Q E s := by
  obtain ⟨vs, hl, hv⟩ := hT
  obtain ⟨t, ht⟩ := hv c hc
  unfold tableLookup
  refine wpAny_bind (wpAny_attempt (wpAny_bind (wpAny_mkInt ?_)))
  refine wpAny_getItem_list (s := { s with toks := s.toks + 1 }) hl (Int.natCast_nonneg _) (by omega) (by simpa using ht) ?_
  dsimp only
  refine wpAny_bind (wpAny_of_eq (a := none) rfl ?_)
  dsimp only
  refine wpAny_bind (wpAny_of_eq (a := some (tab c)) rfl ?_)
  exact wpAny_pure (h _)

def outOf (tab : Nat → Str) (pre : List Nat) : Array Nat := (pre.flatMap fun c => (tab c).cps.toList).toArray
theorem outOf_snoc (pre : List Nat) (c : Nat) : outOf tab (pre ++ [c]) = outOf tab pre ++ (tab c).cps := by
  simp [outOf]
abbrev TrSt := List Str × Nat × Bool × List (Nat × Option Nat) × Bool
structure TrInv (tab : Nat → Str) (pre : List Nat) (st : TrSt) : Prop where
  drop : st.2.2.2.2 = false
  total : st.2.1 ≤ 3 * pre.length
  out : st.1.reverse.foldl (fun acc p => acc ++ p.cps) #[] = outOf tab pre
  known : ∀ c x, st.2.2.2.1.lookup c = some x → ∃ d, x = some d ∧ tab c = ⟨#[d]⟩
theorem out_push {ps : List Str} {x : Str} : (x :: ps).reverse.foldl (fun (acc : Array Nat) p => acc ++ p.cps) #[] = ps.reverse.foldl (fun acc p => acc ++ p.cps) #[] ++ x.cps := by
  rw [List.reverse_cons, List.foldl_append]; rfl

theorem len_out (tab : Nat → Str) (hlen : ∀ c, (tab c).length ≤ 3) : ∀ pre : List Nat, (outOf tab pre).size ≤ 3 * pre.length := by
  intro pre
  induction pre with
  | nil => simp [outOf]
  | cons c l ih =>
    have h3 := hlen c
    have e : outOf tab (c :: l) = (tab c).cps ++ outOf tab l := by simp [outOf]
    rw [e, Array.size_append, List.length_cons]
    have : (tab c).cps.size ≤ 3 := h3
    omega

theorem meets_translate {x : Str} {t : Tok} (hlen : ∀ c, (tab c).length ≤ 3) (hx : x.length ≤ 1000) (hne : 0 < x.length) (ho : ∀ c ∈ x.cps.toList, c < 256) :
    Meets («str.translate» ⟨[.str x t, .ref a], []⟩) (fun _ R s => TabOf s.heap a tab ∧ ∀ t' k, R (.ok (.ret (.str ⟨outOf tab x.cps.toList⟩ t'))) { s with toks := k }) := by
  refine .of_wp fun prog w A R s hS => ?_
  obtain ⟨hT, h⟩ := hS
  unfold «str.translate»
  have e1 : strOneArg "translate" ⟨[.str x t, .ref a], []⟩ = pure (.str x t, x, .ref a) := by kernel_rfl
  rw [e1]
  refine wpAny_bind (wpAny_pure ?_)
  dsimp only
  rw [if_neg (by simp; omega)]
  have hsmall : ∀ {n m : Nat}, n ≤ 3 * m → m ≤ 1000 → tooLong n = false := by
    intro n m h1 h2
    unfold tooLong
    rw [sizeLine_eq]
    simp; omega
  have hxl : x.cps.toList.length = x.length := by simp [Str.length]
  refine wpAny_bind ?_
  rw [← Array.forIn_toList]
  refine wp_forIn (P := TrInv tab) (S := fun s' => ∃ k, s' = { s with toks := k }) x.cps.toList x.cps.toList [] _ s rfl ⟨rfl, by simp, rfl, by intro c x h; cases h⟩ ⟨s.toks, rfl⟩ ?_ ?_
  · intro c pre post st s' hp I ⟨k, hs'⟩
    have hc : c ∈ x.cps.toList := by rw [hp]; simp
    obtain ⟨pieces, total, fast, known, drop⟩ := st
    obtain ⟨I1, I2, I3, I4⟩ := I
    have hpl : pre.length ≤ 1000 := by
      have := congrArg List.length hp
      rw [List.length_append] at this; omega
    dsimp only at I1 I2 I3 I4 ⊢
    subst I1
    have hcc := ho c hc
    have hl3 := hlen c
    subst hs'
    rw [hsmall I2 hpl, if_neg (by decide)]
    -- the slow road
    have slow : ∀ (k : Nat) (fast : Bool) (known : List (Nat × Option Nat)), (∀ c x, known.lookup c = some x → ∃ d, x = some d ∧ tab c = ⟨#[d]⟩) →
        wpAny (model prog w) A.in1 (tableLookup (.ref a) c >>= fun r => (match r with
          | .keep => pure (ForInStep.yield (({ cps := #[c] } : Str) :: pieces, total + 1, fast, known, false))
          | .drop => pure (ForInStep.yield (pieces, total, fast, known, true))
          | .char d => pure (ForInStep.yield (({ cps := #[d] } : Str) :: pieces, total + 1, fast, known, false))
          | .text t => pure (ForInStep.yield (t :: pieces, total + t.length, fast, known, false)) : Sem (ForInStep TrSt)))
          (fun r s' => ∃ st', r = .yield st' ∧ TrInv tab (pre ++ [c]) st' ∧ ∃ k, s' = { s with toks := k }) (fun e s' => R (.error e) s') { s with toks := k } := by
      intro k fast known hk
      refine wpAny_bind (wp_lookup (tab := tab) (s := { s with toks := k }) hT hcc fun k' => ?_)
      refine wpAny_pure ⟨_, rfl, ⟨rfl, ?_, ?_, hk⟩, _, rfl⟩
      · show total + (tab c).length ≤ 3 * (pre ++ [c]).length
        rw [List.length_append]; simp only [List.length_cons, List.length_nil]; omega
      · show List.foldl _ _ (tab c :: pieces).reverse = _
        rw [out_push, I3, outOf_snoc]
    cases fast with
    | false => exact slow _ _ _ I4
    | true =>
      rw [if_pos rfl]
      cases hk : known.lookup c with
      | some y =>
        obtain ⟨d, rfl, hd⟩ := I4 c y hk
        refine wpAny_bind (wpAny_pure ?_)
        refine wpAny_pure ⟨_, rfl, ⟨rfl, ?_, ?_, I4⟩, _, rfl⟩
        · show total + 1 ≤ 3 * (pre ++ [c]).length
          rw [List.length_append]; simp only [List.length_cons, List.length_nil]; omega
        · show List.foldl _ _ ((⟨#[d]⟩ : Str) :: pieces).reverse = _
          rw [out_push, I3, outOf_snoc, hd]
      | none =>
        refine wpAny_bind (wp_lookup (tab := tab) (s := { s with toks := k }) hT hcc fun k' => ?_)
        dsimp only
        by_cases h1 : ((tab c).length == 1 && (tab c).cps.all fun x => decide (x < 128)) = true
        · rw [if_pos h1]
          have : ∃ d, tab c = ⟨#[d]⟩ := by
            rw [Bool.and_eq_true] at h1
            have h2 : (tab c).cps.size = 1 := by simpa [Str.length] using h1.1
            revert h2
            generalize tab c = y
            intro h2
            obtain ⟨⟨l⟩⟩ := y
            match l, h2 with
            | [d], _ => exact ⟨d, rfl⟩
          obtain ⟨d, hd⟩ := this
          have h0 : (tab c).cps[0]? = some d := by rw [hd]; rfl
          rw [h0]
          dsimp only
          refine wpAny_bind (wpAny_pure ?_)
          refine wpAny_pure ⟨_, rfl, ⟨rfl, ?_, ?_, ?_⟩, _, rfl⟩
          · show total + 1 ≤ 3 * (pre ++ [c]).length
            rw [List.length_append]; simp only [List.length_cons, List.length_nil]; omega
          · show List.foldl _ _ ((⟨#[d]⟩ : Str) :: pieces).reverse = _
            rw [out_push, I3, outOf_snoc, hd]
          · intro c' y hy
            rw [List.lookup_cons] at hy
            by_cases hcc' : (c' == c) = true
            · rw [hcc'] at hy
              have : c' = c := by simpa using hcc'
              subst this
              exact ⟨d, (Option.some.inj hy).symm, hd⟩
            · have hf : (c' == c) = false := by simpa using hcc'
              rw [hf] at hy
              exact I4 c' y hy
        · rw [if_neg h1]
          dsimp only
          refine wpAny_bind (wpAny_pure ?_)
          dsimp only
          refine wpAny_bind (wpAny_rule ?_)
          exact slow _ _ _ I4
  · intro st s' I ⟨k, hs'⟩
    obtain ⟨pieces, total, fast, known, drop⟩ := st
    obtain ⟨I1, I2, I3, I4⟩ := I
    subst hs'
    dsimp only at I1 I2 I3 I4 ⊢
    rw [hsmall I2 (by omega), if_neg (by decide)]
    unfold retStr
    rw [I3]
    refine wpAny_bind (wpAny_mkStr ?_ ?_)
    · exact wpAny_pure ⟨_, rfl, h _ _⟩
    · show (outOf tab x.cps.toList).size ≤ _
      rw [sizeLine_eq]
      have := len_out tab hlen x.cps.toList
      omega
end
end Mine
end
section
open PySem PySem.W PyProof.Rows
set_option autoImplicit false
namespace Mine
section
open PySem.Builtin
def octs (b : Array UInt8) : List Nat := b.toList.map (·.toNat)
section
variable {prog : Program} {w : World} {A : Around} {E : Value → Shared → Prop} {s : Shared} {b : Array UInt8} {t u : Tok}
open PySem.Builtin._codecs
theorem wp_latin {id : String} {Q : Array Nat × Nat → Shared → Prop} (hb : b.size ≤ 1000) (h : Q ((octs b).toArray, b.size) s) :
    wpAny (model prog w) A (runDecoder id latin1Decoder none true b 0 []) Q E s := by
  unfold runDecoder
  dsimp only
  rw [Std.Legacy.Range.forIn_eq_forIn_range']
  refine wpAny_bind ?_
  have hsz : [:b.size].size = b.size := by simp [Std.Legacy.Range.size]
  rw [hsz]
  refine wp_forIn (P := fun pre st => st.1 = pre.length ∧ st.2.1 = ((octs b).take pre.length).toArray) (S := fun s' => s' = s) (List.range' 0 b.size) (List.range' 0 b.size) [] _ s rfl ⟨rfl, rfl⟩ rfl ?_ ?_
  · intro c pre post st s' hp ⟨I1, I2⟩ hs
    subst hs
    obtain ⟨p, out, fs⟩ := st
    dsimp only at I1 I2 ⊢
    subst I1
    have hlt : pre.length < b.size := by
      have := congrArg List.length hp
      rw [List.length_range', List.length_append, List.length_cons] at this
      omega
    have hout : ¬ out.size > sizeLine := by
      rw [I2, List.size_toArray, List.length_take, sizeLine_eq]
      omega
    rw [if_neg hout, if_neg (by omega)]
    have hf : latin1Decoder.find true b pre.length = .text [(b.getD pre.length 0).toNat] (pre.length + 1) := rfl
    rw [hf]
    refine wpAny_pure ⟨_, rfl, ⟨?_, ?_⟩, rfl⟩
    · simp
    · show out ++ _ = _
      rw [I2, List.length_append, List.length_singleton, List.take_add_one]
      have : (octs b)[pre.length]? = some (b.getD pre.length 0).toNat := by
        simp [octs, hlt, Array.getD]
      rw [this]
      simp
  · intro st s' ⟨I1, I2⟩ hs
    subst hs
    obtain ⟨p, out, fs⟩ := st
    dsimp only at I1 I2 ⊢
    rw [List.length_range'] at I1 I2
    refine wpAny_pure ?_
    have hl : b.size = (octs b).length := by simp [octs]
    rw [I1, I2, hl, List.take_length, ← hl]
    exact h
theorem road_latin {id : String} : decodeRoad id b (PySem.Str.ofString "latin1") none [] = (runDecoder id latin1Decoder none true b 0 [] >>= fun r => mkStr ⟨r.1⟩) := by kernel_rfl
theorem meets_latin_text {t1 t2 : Tok} {d : PySem.Str} (hb : b.size ≤ 1000) :
    Meets («_codecs.decode.text» ⟨[.bytes b t, .str (PySem.Str.ofString "latin1") t1, .none, .str d t2], []⟩) (fun _ R s => R (.ok (.ret (.str ⟨(octs b).toArray⟩ s.toks))) { s with toks := s.toks + 1 }) := by
  refine .of_wp fun prog w A R s h => ?_
  show wpAny _ _ (Bytes.bytesLike _ (.bytes b t) >>= fun r => _) _ _ s
  refine wpAny_bind (wpAny_of_eq KBd.like_eq ?_)
  refine wpAny_bind (wpAny_of_eq KBd.held_eq ?_)
  show wpAny _ _ (_codecs.decodeRoad _ b (PySem.Str.ofString "latin1") none [] >>= fun v => _) _ _ s
  rw [road_latin]
  refine wpAny_bind (wpAny_bind (wp_latin hb ?_))
  refine wpAny_mkStr (wpAny_pure ⟨_, rfl, h⟩) ?_
  show ((octs b).toArray).size ≤ _
  rw [sizeLine_eq]
  simp [octs]
  omega
theorem entry_latin {c : UInt8} {cs : List UInt8} : «bytes.decode» ⟨[.bytes (c :: cs).toArray t, .str (PySem.Str.ofString "latin1") u], []⟩ = (mkStr (PySem.Str.ofString "utf-8") >>= fun _ => mkStr (PySem.Str.ofString "latin1") >>= fun e => mkStr (PySem.Str.ofString "bytes.decode") >>= fun d =>
    call (.builtin "_codecs.decode.text") [.bytes (c :: cs).toArray t, e, .none, d] >>= fun v => ret v) := by kernel_rfl
theorem meets_latin {c : UInt8} {cs : List UInt8} (hb : (c :: cs).toArray.size ≤ 1000) :
    Meets («bytes.decode» ⟨[.bytes (c :: cs).toArray t, .str (PySem.Str.ofString "latin1") u], []⟩) (fun _ R s => ∀ t' k, R (.ok (.ret (.str ⟨(octs (c :: cs).toArray).toArray⟩ t'))) { s with toks := k }) := by
  refine .of_wp fun prog w A R s h => ?_
  rw [entry_latin]
  refine wpAny_bind (wpAny_mkStr ?_ (by decide))
  refine wpAny_bind (wpAny_mkStr ?_ (by decide))
  refine wpAny_bind (wpAny_mkStr ?_ (by decide))
  exact wpAny_bind (call_function_meets KBd.kind_text KBd.plain_text KBd.entry_text (KBd.args_text _ _ _ _) (meets_latin_text hb) (wpAny_pure ⟨_, rfl, h _ _⟩))
theorem args_decode_2 (a b : Value) : argsOk "bytes.decode" ⟨[a, b], []⟩ := by unfold argsOk; kernel_rfl
theorem call_latin {Q : Value → Shared → Prop} (hne : 0 < b.size) (hb : b.size ≤ 1000) (h : ∀ t' k, Q (.str ⟨(octs b).toArray⟩ t') { s with toks := k }) :
    wpAny (model prog w) A (call (.builtin "bytes.decode") [.bytes b t, .str (PySem.Str.ofString "latin1") u]) Q E s := by
  obtain ⟨l⟩ := b
  cases l with
  | nil => exact absurd hne (by decide)
  | cons c cs => exact call_meets FB.slot_bytes_decode (typeIs_bytes _ _ _) FB.entry_bytes_decode (args_decode_2 _ _) (meets_latin hb) h
end
end
end Mine
end
section
open PySem PySem.W PyProof.Rows
set_option autoImplicit false
set_option maxRecDepth 100000
namespace Mine
theorem plainAttrs_match : PlainAttrs "re.Match" :=
  ⟨⟨"object.__getattribute__", by rw [typeLookup_type, builtinLookup_eq_fast]; kernel_rfl, by decide +kernel⟩, by rw [typeLookup_type, builtinLookup_eq_fast]; kernel_rfl⟩
theorem plainAttrs_pattern : PlainAttrs "re.Pattern" :=
  ⟨⟨"object.__getattribute__", by rw [typeLookup_type, builtinLookup_eq_fast]; kernel_rfl, by decide +kernel⟩, by rw [typeLookup_type, builtinLookup_eq_fast]; kernel_rfl⟩
theorem slot_group : Slot "re.Match" "group" "re.Match.group" :=
  .of (owner := "re.Match") (n := "group") (by rw [typeLookup_type, builtinLookup_eq_fast]; kernel_rfl) (by decide +kernel) (by decide +kernel) (by decide +kernel)
    (by first | exact .inl (by decide +kernel) | exact .inr (by decide +kernel)) (by rw [isSubtype_type]; kernel_rfl)
theorem type_group : typeOf (.builtin "re.Match.group") = pure (.type "method_descriptor") := by show builtinType _ = _; rw [builtinType_eq_fast]; kernel_rfl
theorem entry_group : entryFor table "re.Match.group" = some Builtin.«re.Match.group» := by first | exact entryFor_of_tree (by kernel_rfl) | exact entryFor_of_fast (by kernel_rfl)
theorem args_group_2 (a b : Value) : argsOk "re.Match.group" ⟨[a, b], []⟩ := by unfold argsOk; kernel_rfl
theorem slot_sub : Slot "re.Pattern" "sub" "re.Pattern.sub" :=
  .of (owner := "re.Pattern") (n := "sub") (by rw [typeLookup_type, builtinLookup_eq_fast]; kernel_rfl) (by decide +kernel) (by decide +kernel) (by decide +kernel)
    (by first | exact .inl (by decide +kernel) | exact .inr (by decide +kernel)) (by rw [isSubtype_type]; kernel_rfl)
theorem type_sub : typeOf (.builtin "re.Pattern.sub") = pure (.type "method_descriptor") := by show builtinType _ = _; rw [builtinType_eq_fast]; kernel_rfl
theorem entry_sub : entryFor table "re.Pattern.sub" = some Builtin.«re.Pattern.sub» := by first | exact entryFor_of_tree (by kernel_rfl) | exact entryFor_of_fast (by kernel_rfl)
theorem args_sub_3 (a b c : Value) : argsOk "re.Pattern.sub" ⟨[a, b, c], []⟩ := by unfold argsOk; kernel_rfl
theorem entry_loop : entryFor table "re.Pattern.sub.loop" = some Builtin.«re.Pattern.sub.loop» := by first | exact entryFor_of_tree (by kernel_rfl) | exact entryFor_of_fast (by kernel_rfl)
theorem plain_loop : plainId "re.Pattern.sub.loop" = true := by decide +kernel

abbrev matchObj (P : Value) (x : Str) (t : Tok) (n : Nat) (T : Addr) : Obj := { cls := .type "re.Match", data := .fields #[.str x t, P, rawInt 0, rawInt n, rawInt (-1), .ref T] }
abbrev spanObj (b e k : Nat) : Obj := { cls := .type "tuple", data := .seq #[rawInt b, rawInt e] k }
section
variable {prog : Program} {w : World} {A : Around} {E : Value → Shared → Prop} {s : Shared}
open PySem.Builtin PySem.Builtin.Re
theorem wp_group {P : Value} {x : Str} {t u : Tok} {n b e k' : Nat} {M T : Addr} {Q : Value → Shared → Prop} (hM : s.heap.get? M = some (matchObj P x t n T)) (hT : s.heap.get? T = some (spanObj b e k'))
    (hsz : x.length ≤ 1000) (h : ∀ t' tk, Q (.str ⟨x.cps.extract b e⟩ t') { s with toks := tk }) :
    wpAny (model prog w) A (call (.builtin "re.Match.group") [.ref M, .int 0 u]) Q E s := by
  have hTI : s.TypeIs (.ref M) "re.Match" := ⟨_, hM, rfl⟩
  refine call_meets slot_group hTI entry_group (args_group_2 _ _) (S := fun _ R s => s.heap.get? M = some (matchObj P x t n T) ∧ s.heap.get? T = some (spanObj b e k') ∧ ∀ t' tk, R (.ok (.ret (.str ⟨x.cps.extract b e⟩ t'))) { s with toks := tk }) ?_ ⟨hM, hT, h⟩
  refine .of_wp fun prog w A R s ⟨hM, hT, h⟩ => ?_
  unfold «re.Match.group»
  refine wpAny_bind (wpAny_of_eq (a := ()) (by kernel_rfl) ?_)
  refine wpAny_bind ?_
  unfold reFound
  refine wpAny_bind (wpAny_fieldsOf hM rfl ?_)
  refine wpAny_bind ?_
  unfold reRawItems
  refine wpAny_bind (wpAny_seqItems (a := T) hT rfl ?_)
  refine wpAny_pure ?_
  refine wpAny_pure ?_
  dsimp only
  refine wpAny_bind ?_
  refine wpAny_of_eq (a := 0) (by kernel_rfl) ?_
  refine wpAny_bind ?_
  unfold reGroupText
  have e1 : (Array.map reRawOf ((some #[rawInt (b : Int), rawInt (e : Int)]).getD #[])).getD (2 * 0) (-1) = (b : Int) := by kernel_rfl
  have e2 : (Array.map reRawOf ((some #[rawInt (b : Int), rawInt (e : Int)]).getD #[])).getD (2 * 0 + 1) (-1) = (e : Int) := by kernel_rfl
  dsimp only
  rw [e1, e2]
  have hc : (decide ((b : Int) < 0) || decide ((e : Int) < 0)) = false := by simp
  rw [hc, if_neg (by decide)]
  refine wpAny_bind (wpAny_of_eq (a := (x.cps, 0)) (by kernel_rfl) ?_)
  show wpAny _ _ (mkStr ⟨x.cps.extract (b : Int).toNat (e : Int).toNat⟩) _ _ _
  rw [Int.toNat_natCast, Int.toNat_natCast]
  refine wpAny_mkStr (wpAny_pure ⟨_, rfl, h _ _⟩) ?_
  show (x.cps.extract b e).size ≤ _
  rw [Array.size_extract, sizeLine_eq]
  have : x.cps.size ≤ 1000 := hsz
  omega
end
end Mine
end
section
open PySem PySem.W PyProof.Rows
set_option autoImplicit false
set_option maxRecDepth 100000
namespace Mine
def hx (n : Nat) : Nat := if n < 10 then 48 + n else 55 + n
theorem read16_all : (List.range 256).map (fun c => (int_private% "readNumeral") 0 16 [hx (c / 16), hx (c % 16)]) = (List.range 256).map (fun (c : Nat) => (int_private% "Numeral.value") (c : Int)) := by kernel_rfl
theorem read16 {c : Nat} (hc : c < 256) : (int_private% "readNumeral") 0 16 [hx (c / 16), hx (c % 16)] = (int_private% "Numeral.value") (c : Int) := by
  have h := congrArg (fun l => l[c]?) read16_all
  simpa [hc] using h
theorem hx_pos (n : Nat) : hx n ≠ 0 := by unfold hx; split <;> omega
theorem hx_small {n : Nat} (h : n < 16) : hx n < 128 := by unfold hx; split <;> omega
theorem typeCall_int_2 (a b : Value) : checkTypeCall "int" ⟨[a, b], []⟩ = pure () := by kernel_rfl
theorem newCall_int_2 (a b : Value) : checkBuiltinCall "int.__new__" ⟨[.type "int", a, b], []⟩ = pure () := by kernel_rfl
theorem args_object_init_3 (a b c : Value) : argsOk "object.__init__" ⟨[a, b, c], []⟩ := by unfold argsOk; kernel_rfl
section
variable {M : Model} {A : Around} {E : Value → Shared → Prop} {s : Shared}
theorem wp_text16 {Q : Value → Shared → Prop} {v : Value} {c : Nat} (hc : c < 256) (h : Q (.int c s.toks) { s with toks := s.toks + 1 }) :
    wpAny M A ((int_private% "intFromText") v [hx (c / 16), hx (c % 16)] 16) Q E s := by
  have e : ([hx (c / 16), hx (c % 16)].takeWhile (· != 0)) = [hx (c / 16), hx (c % 16)] := by
    rw [List.takeWhile_cons, if_pos (by simp [hx_pos]), List.takeWhile_cons, if_pos (by simp [hx_pos])]; rfl
  have hs : ([hx (c / 16), hx (c % 16)].takeWhile (· != 0)).length ≤ 640 := by rw [e]; exact Nat.le_of_ble_eq_true rfl
  have hr : (int_private% "readNumeral") 0 16 ([hx (c / 16), hx (c % 16)].takeWhile (· != 0)) = (int_private% "Numeral.value") (c : Int) := by rw [e]; exact read16 hc
  have ha : (([hx (c / 16), hx (c % 16)].takeWhile (· != 0)).length == [hx (c / 16), hx (c % 16)].length) = true := by rw [e]; rfl
  generalize [hx (c / 16), hx (c % 16)] = text at *
  obtain ⟨hp, g, d, tk, os⟩ := s
  repeat (any_goals (first
    | assumption
    | (with_reducible refine wpAny_ite_true (decide_eq_true hs) ?_)
    | (with_reducible refine wpAny_ite_true (decide_eq_true ha) ?_)
    | wp_step))
  all_goals (try rw [hr])
  all_goals (try dsimp only)
  repeat (any_goals (first
    | assumption
    | (with_reducible refine wpAny_ite_true (decide_eq_true hs) ?_)
    | (with_reducible refine wpAny_ite_true (decide_eq_true ha) ?_)
    | wp_step))
end
theorem gives_int16 {c : Nat} {t u : Tok} (hc : c < 256) : Gives (Builtin.«int.__new__» ⟨[.type "int", .str ⟨#[hx (c / 16), hx (c % 16)]⟩ t, .int 16 u], []⟩) (.int c) :=
  .of_wp fun M A E s Q h => by
    obtain ⟨hp, g, d, tk, os⟩ := s
    have f1 := F.conv_sub_int
    have f2 := F.madeHere_int
    have hall : ((⟨#[hx (c / 16), hx (c % 16)]⟩ : PySem.Str).cps.all fun x => decide (x < 128)) = true := by
      simp [hx_small (show c / 16 < 16 by omega), hx_small (show c % 16 < 16 by omega)]
    repeat (any_goals (first
      | assumption
      | ((with_reducible show wpAny _ _ ((int_private% "intFromText") _ _ _) _ _ _); (rw [if_pos hall]); refine wp_text16 hc ?_)
      | wp_step))
    exact ⟨_, rfl, h⟩
section
variable {prog : Program} {w : World} {A : Around} {E : Value → Shared → Prop} {s : Shared}
theorem call_int16 {x : PySem.Str} {c : Nat} {t u : Tok} {Q : Value → Shared → Prop} (hc : c < 256) (hx' : x = ⟨#[hx (c / 16), hx (c % 16)]⟩) (h : ∀ t' k, Q (.int c t') { s with toks := k }) :
    wpAny (model prog w) A (call (.type "int") [.str x t, .int 16 u]) Q E s := by
  subst hx'
  exact callType_new F.called_int F.newNe_int (typeCall_int_2 _ _) (newCall_int_2 _ _) (fun obj => args_object_init_3 _ _ _) F.entry_int_new (gives_int16 hc).meets (show (Made.int c).post _ s from ⟨rfl, h _ _⟩)
end
end Mine
end
section
open PySem PySem.W PyProof.Rows
set_option maxRecDepth 100000
set_option maxHeartbeats 8000000
theorem Mine.hd : False → PySem.Challenge.rw_ik0023_01.Holds := by
  intro f
  w_on
  o_law
  refine' And.left (b := _) ⟨?main, And.left (b := _) ⟨?hl, And.left (b := _) ⟨?hw, ?hc⟩⟩⟩
  case main => k_head
  all_goals exact f.elim
end
section
open PySem PySem.W PyProof.Rows
set_option autoImplicit false
set_option maxRecDepth 100000
namespace Mine
noncomputable def kO (p : Params) (a : Nat) : Obj := ((Mine.hd.heap_39 p).lookup a).getD default
def holderO : Obj → Obj
  | ⟨_, _, .func f, _⟩ => ⟨.none, none, .func { f with globals := 0, defaults := .none, kwdefaults := .none, doc := .none, pyModule := .none, annotations := none, code := .none, closureTuple := .none }, #[]⟩
  | o => o
def envT (p : Program) : Env := { scope := p.main.scope, locals := mainNs, globals := mainNs, cells := [], code := .ref 30, frame := some 31 }
def codeT (p : Program) : Code := .body (behindTheImports p) (envT p)
abbrev posQ : Pos := ⟨0, 0, 0, 0⟩
noncomputable def oE_1 (p : Params) : Obj := ⟨(.type "dict"), none, (.dict #[⟨(PyData.keyHash p ⟨#[98, 117, 105, 108, 116, 105, 110, 115]⟩), (.str ⟨#[98, 117, 105, 108, 116, 105, 110, 115]⟩ 162), (.ref 4)⟩, ⟨(PyData.keyHash p ⟨#[95, 95, 109, 97, 105, 110, 95, 95]⟩), (.str ⟨#[95, 95, 109, 97, 105, 110, 95, 95]⟩ 163), (.ref 5)⟩, ⟨(PyData.keyHash p ⟨#[95, 115, 114, 101]⟩), (.str ⟨#[95, 115, 114, 101]⟩ 244), (.ref 12)⟩] 3), #[]⟩
noncomputable def oE_2 (p : Params) : Obj := ⟨.none, none, (.dict #[⟨(PyData.keyHash p ⟨#[105, 109, 112, 111, 114, 116, 46, 108, 111, 97, 100, 101, 100, 46, 95, 115, 114, 101]⟩), (.str ⟨#[105, 109, 112, 111, 114, 116, 46, 108, 111, 97, 100, 101, 100, 46, 95, 115, 114, 101]⟩ 183), (.bool true)⟩, ⟨(PyData.keyHash p ⟨#[99, 108, 97, 115, 115, 46, 95, 102, 114, 111, 122, 101, 110, 95, 105, 109, 112, 111, 114, 116, 108, 105, 98, 46, 66, 117, 105, 108, 116, 105, 110, 73, 109, 112, 111, 114, 116, 101, 114]⟩), (.str ⟨#[99, 108, 97, 115, 115, 46, 95, 102, 114, 111, 122, 101, 110, 95, 105, 109, 112, 111, 114, 116, 108, 105, 98, 46, 66, 117, 105, 108, 116, 105, 110, 73, 109, 112, 111, 114, 116, 101, 114]⟩ 185), (.ref 14)⟩, ⟨(PyData.keyHash p ⟨#[119, 97, 116, 99, 104, 101, 100, 46, 105, 109, 112, 111, 114, 116]⟩), (.str ⟨#[119, 97, 116, 99, 104, 101, 100, 46, 105, 109, 112, 111, 114, 116]⟩ 206), (.ref 18)⟩, ⟨(PyData.keyHash p ⟨#[99, 108, 97, 115, 115, 46, 95, 102, 114, 111, 122, 101, 110, 95, 105, 109, 112, 111, 114, 116, 108, 105, 98, 46, 77, 111, 100, 117, 108, 101, 83, 112, 101, 99]⟩), (.str ⟨#[99, 108, 97, 115, 115, 46, 95, 102, 114, 111, 122, 101, 110, 95, 105, 109, 112, 111, 114, 116, 108, 105, 98, 46, 77, 111, 100, 117, 108, 101, 83, 112, 101, 99]⟩ 216), (.ref 22)⟩, ⟨(PyData.keyHash p ⟨#[115, 121, 115, 46, 109, 111, 100, 117, 108, 101, 115, 46, 98, 111, 111, 107, 101, 100, 45, 101, 112, 111, 99, 104]⟩), (.str ⟨#[115, 121, 115, 46, 109, 111, 100, 117, 108, 101, 115, 46, 98, 111, 111, 107, 101, 100, 45, 101, 112, 111, 99, 104]⟩ 245), (.int (3) 0)⟩, ⟨(PyData.keyHash p ⟨#[105, 109, 112, 111, 114, 116, 46, 108, 97, 116, 101, 114, 45, 108, 97, 105, 100, 46, 95, 115, 114, 101]⟩), (.str ⟨#[105, 109, 112, 111, 114, 116, 46, 108, 97, 116, 101, 114, 45, 108, 97, 105, 100, 46, 95, 115, 114, 101]⟩ 270), (.bool true)⟩, ⟨(PyData.keyHash p ⟨#[119, 97, 116, 99, 104, 101, 100, 46, 108, 105, 98, 114, 97, 114, 121]⟩), (.str ⟨#[119, 97, 116, 99, 104, 101, 100, 46, 108, 105, 98, 114, 97, 114, 121]⟩ 272), (.ref 27)⟩, ⟨(PyData.keyHash p ⟨#[119, 97, 116, 99, 104, 101, 100, 46, 108, 105, 98, 114, 97, 114, 121, 45, 111, 98, 106, 101, 99, 116, 115]⟩), (.str ⟨#[119, 97, 116, 99, 104, 101, 100, 46, 108, 105, 98, 114, 97, 114, 121, 45, 111, 98, 106, 101, 99, 116, 115]⟩ 0), (.str ⟨#[12]⟩ 0)⟩, ⟨(PyData.keyHash p ⟨#[119, 97, 116, 99, 104, 101, 100, 46, 108, 105, 98, 114, 97, 114, 121, 45, 100, 101, 101, 112, 46, 95, 115, 114, 101]⟩), (.str ⟨#[119, 97, 116, 99, 104, 101, 100, 46, 108, 105, 98, 114, 97, 114, 121, 45, 100, 101, 101, 112, 46, 95, 115, 114, 101]⟩ 273), (.str ⟨#[4, 0, 0, 11, 4, 0, 0, 11, 4, 0, 0, 3, 4, 0, 0, 11, 8, 4, 100, 105, 99, 116, 2]⟩ 0)⟩] 9), #[]⟩
noncomputable def oE_3 (p : Params) : Obj := ⟨(.type "dict"), none, (.dict #[⟨(PyData.keyHash p ⟨#[95, 95, 110, 97, 109, 101, 95, 95]⟩), (.str ⟨#[95, 95, 110, 97, 109, 101, 95, 95]⟩ 165), (.str ⟨#[95, 95, 109, 97, 105, 110, 95, 95]⟩ 164)⟩, ⟨(PyData.keyHash p ⟨#[95, 95, 100, 111, 99, 95, 95]⟩), (.str ⟨#[95, 95, 100, 111, 99, 95, 95]⟩ 166), .none⟩, ⟨(PyData.keyHash p ⟨#[95, 95, 112, 97, 99, 107, 97, 103, 101, 95, 95]⟩), (.str ⟨#[95, 95, 112, 97, 99, 107, 97, 103, 101, 95, 95]⟩ 167), .none⟩, ⟨(PyData.keyHash p ⟨#[95, 95, 108, 111, 97, 100, 101, 114, 95, 95]⟩), (.str ⟨#[95, 95, 108, 111, 97, 100, 101, 114, 95, 95]⟩ 168), (.builtin (String.ofList ['_', '_', 'm', 'a', 'i', 'n', '_', '_', '.', '_', '_', 'l', 'o', 'a', 'd', 'e', 'r', '_', '_', '#', 'o', 'p', 'a', 'q', 'u', 'e']))⟩, ⟨(PyData.keyHash p ⟨#[95, 95, 115, 112, 101, 99, 95, 95]⟩), (.str ⟨#[95, 95, 115, 112, 101, 99, 95, 95]⟩ 169), .none⟩, ⟨(PyData.keyHash p ⟨#[95, 95, 97, 110, 110, 111, 116, 97, 116, 105, 111, 110, 115, 95, 95]⟩), (.str ⟨#[95, 95, 97, 110, 110, 111, 116, 97, 116, 105, 111, 110, 115, 95, 95]⟩ 170), (.ref 6)⟩, ⟨(PyData.keyHash p ⟨#[95, 95, 98, 117, 105, 108, 116, 105, 110, 115, 95, 95]⟩), (.str ⟨#[95, 95, 98, 117, 105, 108, 116, 105, 110, 115, 95, 95]⟩ 171), (.ref 4)⟩, ⟨(PyData.keyHash p ⟨#[95, 95, 102, 105, 108, 101, 95, 95]⟩), (.str ⟨#[95, 95, 102, 105, 108, 101, 95, 95]⟩ 173), (.str ⟨#[47, 99, 108, 97, 105, 109, 47, 99, 117, 116, 46, 112, 121]⟩ 172)⟩, ⟨(PyData.keyHash p ⟨#[95, 95, 99, 97, 99, 104, 101, 100, 95, 95]⟩), (.str ⟨#[95, 95, 99, 97, 99, 104, 101, 100, 95, 95]⟩ 174), .none⟩, ⟨(PyData.keyHash p ⟨#[95, 115, 114, 101]⟩), (.str ⟨#[95, 115, 114, 101]⟩ 275), (.ref 12)⟩] 10), #[]⟩
noncomputable def oE_11 (p : Params) : Obj := ⟨(.type "dict"), none, (.dict #[⟨(PyData.keyHash p ⟨#[95, 95, 110, 97, 109, 101, 95, 95]⟩), (.str ⟨#[95, 95, 110, 97, 109, 101, 95, 95]⟩ 247), (.str ⟨#[95, 115, 114, 101]⟩ 246)⟩, ⟨(PyData.keyHash p ⟨#[95, 95, 100, 111, 99, 95, 95]⟩), (.str ⟨#[95, 95, 100, 111, 99, 95, 95]⟩ 248), .none⟩, ⟨(PyData.keyHash p ⟨#[95, 95, 112, 97, 99, 107, 97, 103, 101, 95, 95]⟩), (.str ⟨#[95, 95, 112, 97, 99, 107, 97, 103, 101, 95, 95]⟩ 250), (.str ⟨#[]⟩ 249)⟩, ⟨(PyData.keyHash p ⟨#[95, 95, 108, 111, 97, 100, 101, 114, 95, 95]⟩), (.str ⟨#[95, 95, 108, 111, 97, 100, 101, 114, 95, 95]⟩ 251), (.ref 14)⟩, ⟨(PyData.keyHash p ⟨#[95, 95, 115, 112, 101, 99, 95, 95]⟩), (.str ⟨#[95, 95, 115, 112, 101, 99, 95, 95]⟩ 252), (.ref 26)⟩, ⟨(PyData.keyHash p ⟨#[99, 111, 109, 112, 105, 108, 101]⟩), (.str ⟨#[99, 111, 109, 112, 105, 108, 101]⟩ 253), (.builtin "_sre.compile")⟩, ⟨(PyData.keyHash p ⟨#[116, 101, 109, 112, 108, 97, 116, 101]⟩), (.str ⟨#[116, 101, 109, 112, 108, 97, 116, 101]⟩ 254), (.builtin "_sre.template")⟩, ⟨(PyData.keyHash p ⟨#[103, 101, 116, 99, 111, 100, 101, 115, 105, 122, 101]⟩), (.str ⟨#[103, 101, 116, 99, 111, 100, 101, 115, 105, 122, 101]⟩ 255), (.builtin "_sre.getcodesize")⟩, ⟨(PyData.keyHash p ⟨#[97, 115, 99, 105, 105, 95, 105, 115, 99, 97, 115, 101, 100]⟩), (.str ⟨#[97, 115, 99, 105, 105, 95, 105, 115, 99, 97, 115, 101, 100]⟩ 256), (.builtin "_sre.ascii_iscased")⟩, ⟨(PyData.keyHash p ⟨#[117, 110, 105, 99, 111, 100, 101, 95, 105, 115, 99, 97, 115, 101, 100]⟩), (.str ⟨#[117, 110, 105, 99, 111, 100, 101, 95, 105, 115, 99, 97, 115, 101, 100]⟩ 257), (.builtin "_sre.unicode_iscased")⟩, ⟨(PyData.keyHash p ⟨#[97, 115, 99, 105, 105, 95, 116, 111, 108, 111, 119, 101, 114]⟩), (.str ⟨#[97, 115, 99, 105, 105, 95, 116, 111, 108, 111, 119, 101, 114]⟩ 258), (.builtin "_sre.ascii_tolower")⟩, ⟨(PyData.keyHash p ⟨#[117, 110, 105, 99, 111, 100, 101, 95, 116, 111, 108, 111, 119, 101, 114]⟩), (.str ⟨#[117, 110, 105, 99, 111, 100, 101, 95, 116, 111, 108, 111, 119, 101, 114]⟩ 259), (.builtin "_sre.unicode_tolower")⟩, ⟨(PyData.keyHash p ⟨#[77, 65, 71, 73, 67]⟩), (.str ⟨#[77, 65, 71, 73, 67]⟩ 261), (.int (20230612) 260)⟩, ⟨(PyData.keyHash p ⟨#[67, 79, 68, 69, 83, 73, 90, 69]⟩), (.str ⟨#[67, 79, 68, 69, 83, 73, 90, 69]⟩ 263), (.int (4) 262)⟩, ⟨(PyData.keyHash p ⟨#[77, 65, 88, 82, 69, 80, 69, 65, 84]⟩), (.str ⟨#[77, 65, 88, 82, 69, 80, 69, 65, 84]⟩ 265), (.int (4294967295) 264)⟩, ⟨(PyData.keyHash p ⟨#[77, 65, 88, 71, 82, 79, 85, 80, 83]⟩), (.str ⟨#[77, 65, 88, 71, 82, 79, 85, 80, 83]⟩ 267), (.int (1073741823) 266)⟩, ⟨(PyData.keyHash p ⟨#[99, 111, 112, 121, 114, 105, 103, 104, 116]⟩), (.str ⟨#[99, 111, 112, 121, 114, 105, 103, 104, 116]⟩ 269), (.str ⟨#[32, 83, 82, 69, 32, 50, 46, 50, 46, 50, 32, 67, 111, 112, 121, 114, 105, 103, 104, 116, 32, 40, 99, 41, 32, 49, 57, 57, 55, 45, 50, 48, 48, 50, 32, 98, 121, 32, 83, 101, 99, 114, 101, 116, 32, 76, 97, 98, 115, 32, 65, 66, 32]⟩ 268)⟩] 17), #[]⟩
noncomputable def oE_12 (p : Params) : Obj := ⟨(.type "module"), some 11, .plain, #[]⟩
noncomputable def oE_13 (p : Params) : Obj := ⟨(.type "dict"), none, (.dict #[⟨(PyData.keyHash p ⟨#[95, 95, 109, 111, 100, 117, 108, 101, 95, 95]⟩), (.str ⟨#[95, 95, 109, 111, 100, 117, 108, 101, 95, 95]⟩ 189), (.str ⟨#[95, 102, 114, 111, 122, 101, 110, 95, 105, 109, 112, 111, 114, 116, 108, 105, 98]⟩ 186)⟩, ⟨(PyData.keyHash p ⟨#[95, 95, 102, 105, 114, 115, 116, 108, 105, 110, 101, 110, 111, 95, 95]⟩), (.str ⟨#[95, 95, 102, 105, 114, 115, 116, 108, 105, 110, 101, 110, 111, 95, 95]⟩ 190), (.int (971) 187)⟩, ⟨(PyData.keyHash p ⟨#[95, 95, 100, 111, 99, 95, 95]⟩), (.str ⟨#[95, 95, 100, 111, 99, 95, 95]⟩ 191), (.builtin (String.ofList ['_', 'f', 'r', 'o', 'z', 'e', 'n', '_', 'i', 'm', 'p', 'o', 'r', 't', 'l', 'i', 'b', '.', 'B', 'u', 'i', 'l', 't', 'i', 'n', 'I', 'm', 'p', 'o', 'r', 't', 'e', 'r', '.', '_', '_', 'd', 'o', 'c', '_', '_', ':', 's', 't', 'r', '#', 'o', 'p', 'a', 'q', 'u', 'e']))⟩, ⟨(PyData.keyHash p ⟨#[95, 79, 82, 73, 71, 73, 78]⟩), (.str ⟨#[95, 79, 82, 73, 71, 73, 78]⟩ 192), (.str ⟨#[98, 117, 105, 108, 116, 45, 105, 110]⟩ 188)⟩, ⟨(PyData.keyHash p ⟨#[102, 105, 110, 100, 95, 115, 112, 101, 99]⟩), (.str ⟨#[102, 105, 110, 100, 95, 115, 112, 101, 99]⟩ 193), (.builtin (String.ofList ['_', 'f', 'r', 'o', 'z', 'e', 'n', '_', 'i', 'm', 'p', 'o', 'r', 't', 'l', 'i', 'b', '.', 'B', 'u', 'i', 'l', 't', 'i', 'n', 'I', 'm', 'p', 'o', 'r', 't', 'e', 'r', '.', 'f', 'i', 'n', 'd', '_', 's', 'p', 'e', 'c', '#', 'o', 'p', 'a', 'q', 'u', 'e']))⟩, ⟨(PyData.keyHash p ⟨#[99, 114, 101, 97, 116, 101, 95, 109, 111, 100, 117, 108, 101]⟩), (.str ⟨#[99, 114, 101, 97, 116, 101, 95, 109, 111, 100, 117, 108, 101]⟩ 194), (.builtin (String.ofList ['_', 'f', 'r', 'o', 'z', 'e', 'n', '_', 'i', 'm', 'p', 'o', 'r', 't', 'l', 'i', 'b', '.', 'B', 'u', 'i', 'l', 't', 'i', 'n', 'I', 'm', 'p', 'o', 'r', 't', 'e', 'r', '.', 'c', 'r', 'e', 'a', 't', 'e', '_', 'm', 'o', 'd', 'u', 'l', 'e', '#', 'o', 'p', 'a', 'q', 'u', 'e']))⟩, ⟨(PyData.keyHash p ⟨#[101, 120, 101, 99, 95, 109, 111, 100, 117, 108, 101]⟩), (.str ⟨#[101, 120, 101, 99, 95, 109, 111, 100, 117, 108, 101]⟩ 195), (.builtin (String.ofList ['_', 'f', 'r', 'o', 'z', 'e', 'n', '_', 'i', 'm', 'p', 'o', 'r', 't', 'l', 'i', 'b', '.', 'B', 'u', 'i', 'l', 't', 'i', 'n', 'I', 'm', 'p', 'o', 'r', 't', 'e', 'r', '.', 'e', 'x', 'e', 'c', '_', 'm', 'o', 'd', 'u', 'l', 'e', '#', 'o', 'p', 'a', 'q', 'u', 'e']))⟩, ⟨(PyData.keyHash p ⟨#[103, 101, 116, 95, 99, 111, 100, 101]⟩), (.str ⟨#[103, 101, 116, 95, 99, 111, 100, 101]⟩ 196), (.builtin (String.ofList ['_', 'f', 'r', 'o', 'z', 'e', 'n', '_', 'i', 'm', 'p', 'o', 'r', 't', 'l', 'i', 'b', '.', 'B', 'u', 'i', 'l', 't', 'i', 'n', 'I', 'm', 'p', 'o', 'r', 't', 'e', 'r', '.', 'g', 'e', 't', '_', 'c', 'o', 'd', 'e', '#', 'o', 'p', 'a', 'q', 'u', 'e']))⟩, ⟨(PyData.keyHash p ⟨#[103, 101, 116, 95, 115, 111, 117, 114, 99, 101]⟩), (.str ⟨#[103, 101, 116, 95, 115, 111, 117, 114, 99, 101]⟩ 197), (.builtin (String.ofList ['_', 'f', 'r', 'o', 'z', 'e', 'n', '_', 'i', 'm', 'p', 'o', 'r', 't', 'l', 'i', 'b', '.', 'B', 'u', 'i', 'l', 't', 'i', 'n', 'I', 'm', 'p', 'o', 'r', 't', 'e', 'r', '.', 'g', 'e', 't', '_', 's', 'o', 'u', 'r', 'c', 'e', '#', 'o', 'p', 'a', 'q', 'u', 'e']))⟩, ⟨(PyData.keyHash p ⟨#[105, 115, 95, 112, 97, 99, 107, 97, 103, 101]⟩), (.str ⟨#[105, 115, 95, 112, 97, 99, 107, 97, 103, 101]⟩ 198), (.builtin (String.ofList ['_', 'f', 'r', 'o', 'z', 'e', 'n', '_', 'i', 'm', 'p', 'o', 'r', 't', 'l', 'i', 'b', '.', 'B', 'u', 'i', 'l', 't', 'i', 'n', 'I', 'm', 'p', 'o', 'r', 't', 'e', 'r', '.', 'i', 's', '_', 'p', 'a', 'c', 'k', 'a', 'g', 'e', '#', 'o', 'p', 'a', 'q', 'u', 'e']))⟩, ⟨(PyData.keyHash p ⟨#[108, 111, 97, 100, 95, 109, 111, 100, 117, 108, 101]⟩), (.str ⟨#[108, 111, 97, 100, 95, 109, 111, 100, 117, 108, 101]⟩ 199), (.builtin (String.ofList ['_', 'f', 'r', 'o', 'z', 'e', 'n', '_', 'i', 'm', 'p', 'o', 'r', 't', 'l', 'i', 'b', '.', 'B', 'u', 'i', 'l', 't', 'i', 'n', 'I', 'm', 'p', 'o', 'r', 't', 'e', 'r', '.', 'l', 'o', 'a', 'd', '_', 'm', 'o', 'd', 'u', 'l', 'e', '#', 'o', 'p', 'a', 'q', 'u', 'e']))⟩, ⟨(PyData.keyHash p ⟨#[95, 95, 115, 116, 97, 116, 105, 99, 95, 97, 116, 116, 114, 105, 98, 117, 116, 101, 115, 95, 95]⟩), (.str ⟨#[95, 95, 115, 116, 97, 116, 105, 99, 95, 97, 116, 116, 114, 105, 98, 117, 116, 101, 115, 95, 95]⟩ 200), (.ref 15)⟩, ⟨(PyData.keyHash p ⟨#[95, 95, 100, 105, 99, 116, 95, 95]⟩), (.str ⟨#[95, 95, 100, 105, 99, 116, 95, 95]⟩ 202), (.ref 16)⟩, ⟨(PyData.keyHash p ⟨#[95, 95, 119, 101, 97, 107, 114, 101, 102, 95, 95]⟩), (.str ⟨#[95, 95, 119, 101, 97, 107, 114, 101, 102, 95, 95]⟩ 204), (.ref 17)⟩] 14), #[]⟩
noncomputable def oE_14 (p : Params) : Obj := ⟨(.type "type"), none, (.cls ⟨⟨#[66, 117, 105, 108, 116, 105, 110, 73, 109, 112, 111, 114, 116, 101, 114]⟩, [(.type "object")], [(.ref 14), (.type "object")], 13, ⟨#[66, 117, 105, 108, 116, 105, 110, 73, 109, 112, 111, 114, 116, 101, 114]⟩, true, [], [], false, none, false⟩), #[]⟩
noncomputable def oE_15 (p : Params) : Obj := ⟨(.type "tuple"), none, (.seq #[] 0), #[]⟩
noncomputable def oE_16 (p : Params) : Obj := ⟨(.type "getset_descriptor"), none, (.fields #[(.str ⟨#[95, 95, 100, 105, 99, 116, 95, 95]⟩ 201), (.ref 14), (.builtin "function.__dict__"), (.builtin "function.__dict__#set")]), #[]⟩
noncomputable def oE_17 (p : Params) : Obj := ⟨(.type "getset_descriptor"), none, (.fields #[(.str ⟨#[95, 95, 119, 101, 97, 107, 114, 101, 102, 95, 95]⟩ 203), (.ref 14), (.builtin "ExceptionGroup.__weakref__"), .none]), #[]⟩
noncomputable def oE_18 (p : Params) : Obj := ⟨.none, none, (.seq #[(.int (13) 0), (.str ⟨#[6, 189, 10, 95, 95, 109, 111, 100, 117, 108, 101, 95, 95, 6, 186, 17, 95, 102, 114, 111, 122, 101, 110, 95, 105, 109, 112, 111, 114, 116, 108, 105, 98, 6, 190, 15, 95, 95, 102, 105, 114, 115, 116, 108, 105, 110, 101, 110, 111, 95, 95, 4, 187, 0, 971, 6, 191, 7, 95, 95, 100, 111, 99, 95, 95, 9, 52, 95, 102, 114, 111, 122, 101, 110, 95, 105, 109, 112, 111, 114, 116, 108, 105, 98, 46, 66, 117, 105, 108, 116, 105, 110, 73, 109, 112, 111, 114, 116, 101, 114, 46, 95, 95, 100, 111, 99, 95, 95, 58, 115, 116, 114, 35, 111, 112, 97, 113, 117, 101, 6, 192, 7, 95, 79, 82, 73, 71, 73, 78, 6, 188, 8, 98, 117, 105, 108, 116, 45, 105, 110, 6, 193, 9, 102, 105, 110, 100, 95, 115, 112, 101, 99, 9, 50, 95, 102, 114, 111, 122, 101, 110, 95, 105, 109, 112, 111, 114, 116, 108, 105, 98, 46, 66, 117, 105, 108, 116, 105, 110, 73, 109, 112, 111, 114, 116, 101, 114, 46, 102, 105, 110, 100, 95, 115, 112, 101, 99, 35, 111, 112, 97, 113, 117, 101, 6, 194, 13, 99, 114, 101, 97, 116, 101, 95, 109, 111, 100, 117, 108, 101, 9, 54, 95, 102, 114, 111, 122, 101, 110, 95, 105, 109, 112, 111, 114, 116, 108, 105, 98, 46, 66, 117, 105, 108, 116, 105, 110, 73, 109, 112, 111, 114, 116, 101, 114, 46, 99, 114, 101, 97, 116, 101, 95, 109, 111, 100, 117, 108, 101, 35, 111, 112, 97, 113, 117, 101, 6, 195, 11, 101, 120, 101, 99, 95, 109, 111, 100, 117, 108, 101, 9, 52, 95, 102, 114, 111, 122, 101, 110, 95, 105, 109, 112, 111, 114, 116, 108, 105, 98, 46, 66, 117, 105, 108, 116, 105, 110, 73, 109, 112, 111, 114, 116, 101, 114, 46, 101, 120, 101, 99, 95, 109, 111, 100, 117, 108, 101, 35, 111, 112, 97, 113, 117, 101, 6, 196, 8, 103, 101, 116, 95, 99, 111, 100, 101, 9, 49, 95, 102, 114, 111, 122, 101, 110, 95, 105, 109, 112, 111, 114, 116, 108, 105, 98, 46, 66, 117, 105, 108, 116, 105, 110, 73, 109, 112, 111, 114, 116, 101, 114, 46, 103, 101, 116, 95, 99, 111, 100, 101, 35, 111, 112, 97, 113, 117, 101, 6, 197, 10, 103, 101, 116, 95, 115, 111, 117, 114, 99, 101, 9, 51, 95, 102, 114, 111, 122, 101, 110, 95, 105, 109, 112, 111, 114, 116, 108, 105, 98, 46, 66, 117, 105, 108, 116, 105, 110, 73, 109, 112, 111, 114, 116, 101, 114, 46, 103, 101, 116, 95, 115, 111, 117, 114, 99, 101, 35, 111, 112, 97, 113, 117, 101, 6, 198, 10, 105, 115, 95, 112, 97, 99, 107, 97, 103, 101, 9, 51, 95, 102, 114, 111, 122, 101, 110, 95, 105, 109, 112, 111, 114, 116, 108, 105, 98, 46, 66, 117, 105, 108, 116, 105, 110, 73, 109, 112, 111, 114, 116, 101, 114, 46, 105, 115, 95, 112, 97, 99, 107, 97, 103, 101, 35, 111, 112, 97, 113, 117, 101, 6, 199, 11, 108, 111, 97, 100, 95, 109, 111, 100, 117, 108, 101, 9, 52, 95, 102, 114, 111, 122, 101, 110, 95, 105, 109, 112, 111, 114, 116, 108, 105, 98, 46, 66, 117, 105, 108, 116, 105, 110, 73, 109, 112, 111, 114, 116, 101, 114, 46, 108, 111, 97, 100, 95, 109, 111, 100, 117, 108, 101, 35, 111, 112, 97, 113, 117, 101, 6, 200, 21, 95, 95, 115, 116, 97, 116, 105, 99, 95, 97, 116, 116, 114, 105, 98, 117, 116, 101, 115, 95, 95, 4, 0, 0, 15, 6, 202, 8, 95, 95, 100, 105, 99, 116, 95, 95, 4, 0, 0, 16, 6, 204, 11, 95, 95, 119, 101, 97, 107, 114, 101, 102, 95, 95, 4, 0, 0, 17]⟩ 0), (.bool true), (.bool true), (.str ⟨#[]⟩ 205), (.int (21) 0), (.str ⟨#[6, 227, 10, 95, 95, 109, 111, 100, 117, 108, 101, 95, 95, 6, 217, 17, 95, 102, 114, 111, 122, 101, 110, 95, 105, 109, 112, 111, 114, 116, 108, 105, 98, 6, 228, 15, 95, 95, 102, 105, 114, 115, 116, 108, 105, 110, 101, 110, 111, 95, 95, 4, 218, 0, 562, 6, 229, 7, 95, 95, 100, 111, 99, 95, 95, 9, 47, 95, 102, 114, 111, 122, 101, 110, 95, 105, 109, 112, 111, 114, 116, 108, 105, 98, 46, 77, 111, 100, 117, 108, 101, 83, 112, 101, 99, 46, 95, 95, 100, 111, 99, 95, 95, 58, 115, 116, 114, 35, 111, 112, 97, 113, 117, 101, 6, 230, 8, 95, 95, 105, 110, 105, 116, 95, 95, 9, 44, 95, 102, 114, 111, 122, 101, 110, 95, 105, 109, 112, 111, 114, 116, 108, 105, 98, 46, 77, 111, 100, 117, 108, 101, 83, 112, 101, 99, 46, 95, 95, 105, 110, 105, 116, 95, 95, 35, 111, 112, 97, 113, 117, 101, 6, 231, 8, 95, 95, 114, 101, 112, 114, 95, 95, 9, 44, 95, 102, 114, 111, 122, 101, 110, 95, 105, 109, 112, 111, 114, 116, 108, 105, 98, 46, 77, 111, 100, 117, 108, 101, 83, 112, 101, 99, 46, 95, 95, 114, 101, 112, 114, 95, 95, 35, 111, 112, 97, 113, 117, 101, 6, 232, 6, 95, 95, 101, 113, 95, 95, 9, 42, 95, 102, 114, 111, 122, 101, 110, 95, 105, 109, 112, 111, 114, 116, 108, 105, 98, 46, 77, 111, 100, 117, 108, 101, 83, 112, 101, 99, 46, 95, 95, 101, 113, 95, 95, 35, 111, 112, 97, 113, 117, 101, 6, 233, 6, 99, 97, 99, 104, 101, 100, 9, 42, 95, 102, 114, 111, 122, 101, 110, 95, 105, 109, 112, 111, 114, 116, 108, 105, 98, 46, 77, 111, 100, 117, 108, 101, 83, 112, 101, 99, 46, 99, 97, 99, 104, 101, 100, 35, 111, 112, 97, 113, 117, 101, 6, 234, 6, 112, 97, 114, 101, 110, 116, 9, 42, 95, 102, 114, 111, 122, 101, 110, 95, 105, 109, 112, 111, 114, 116, 108, 105, 98, 46, 77, 111, 100, 117, 108, 101, 83, 112, 101, 99, 46, 112, 97, 114, 101, 110, 116, 35, 111, 112, 97, 113, 117, 101, 6, 235, 12, 104, 97, 115, 95, 108, 111, 99, 97, 116, 105, 111, 110, 9, 48, 95, 102, 114, 111, 122, 101, 110, 95, 105, 109, 112, 111, 114, 116, 108, 105, 98, 46, 77, 111, 100, 117, 108, 101, 83, 112, 101, 99, 46, 104, 97, 115, 95, 108, 111, 99, 97, 116, 105, 111, 110, 35, 111, 112, 97, 113, 117, 101, 6, 236, 21, 95, 95, 115, 116, 97, 116, 105, 99, 95, 97, 116, 116, 114, 105, 98, 117, 116, 101, 115, 95, 95, 4, 0, 0, 23, 6, 238, 8, 95, 95, 100, 105, 99, 116, 95, 95, 4, 0, 0, 24, 6, 240, 11, 95, 95, 119, 101, 97, 107, 114, 101, 102, 95, 95, 4, 0, 0, 25, 6, 241, 8, 95, 95, 104, 97, 115, 104, 95, 95, 0]⟩ 0), (.bool true), (.bool true), (.str ⟨#[]⟩ 242)] 1), #[]⟩
noncomputable def oE_19 (p : Params) : Obj := ⟨(.type "list"), none, (.seq #[] 0), #[]⟩
noncomputable def oE_20 (p : Params) : Obj := ⟨(.type "dict"), none, (.dict #[⟨(PyData.keyHash p ⟨#[110, 97, 109, 101]⟩), (.str ⟨#[110, 97, 109, 101]⟩ 208), (.str ⟨#[95, 115, 114, 101]⟩ 207)⟩, ⟨(PyData.keyHash p ⟨#[108, 111, 97, 100, 101, 114]⟩), (.str ⟨#[108, 111, 97, 100, 101, 114]⟩ 209), (.ref 14)⟩, ⟨(PyData.keyHash p ⟨#[111, 114, 105, 103, 105, 110]⟩), (.str ⟨#[111, 114, 105, 103, 105, 110]⟩ 210), (.str ⟨#[98, 117, 105, 108, 116, 45, 105, 110]⟩ 184)⟩, ⟨(PyData.keyHash p ⟨#[108, 111, 97, 100, 101, 114, 95, 115, 116, 97, 116, 101]⟩), (.str ⟨#[108, 111, 97, 100, 101, 114, 95, 115, 116, 97, 116, 101]⟩ 211), .none⟩, ⟨(PyData.keyHash p ⟨#[115, 117, 98, 109, 111, 100, 117, 108, 101, 95, 115, 101, 97, 114, 99, 104, 95, 108, 111, 99, 97, 116, 105, 111, 110, 115]⟩), (.str ⟨#[115, 117, 98, 109, 111, 100, 117, 108, 101, 95, 115, 101, 97, 114, 99, 104, 95, 108, 111, 99, 97, 116, 105, 111, 110, 115]⟩ 212), .none⟩, ⟨(PyData.keyHash p ⟨#[95, 117, 110, 105, 110, 105, 116, 105, 97, 108, 105, 122, 101, 100, 95, 115, 117, 98, 109, 111, 100, 117, 108, 101, 115]⟩), (.str ⟨#[95, 117, 110, 105, 110, 105, 116, 105, 97, 108, 105, 122, 101, 100, 95, 115, 117, 98, 109, 111, 100, 117, 108, 101, 115]⟩ 213), (.ref 19)⟩, ⟨(PyData.keyHash p ⟨#[95, 115, 101, 116, 95, 102, 105, 108, 101, 97, 116, 116, 114]⟩), (.str ⟨#[95, 115, 101, 116, 95, 102, 105, 108, 101, 97, 116, 116, 114]⟩ 214), (.bool false)⟩, ⟨(PyData.keyHash p ⟨#[95, 99, 97, 99, 104, 101, 100]⟩), (.str ⟨#[95, 99, 97, 99, 104, 101, 100]⟩ 215), .none⟩, ⟨(PyData.keyHash p ⟨#[95, 105, 110, 105, 116, 105, 97, 108, 105, 122, 105, 110, 103]⟩), (.str ⟨#[95, 105, 110, 105, 116, 105, 97, 108, 105, 122, 105, 110, 103]⟩ 243), (.bool false)⟩] 9), #[]⟩
noncomputable def oE_21 (p : Params) : Obj := ⟨(.type "dict"), none, (.dict #[⟨(PyData.keyHash p ⟨#[95, 95, 109, 111, 100, 117, 108, 101, 95, 95]⟩), (.str ⟨#[95, 95, 109, 111, 100, 117, 108, 101, 95, 95]⟩ 227), (.str ⟨#[95, 102, 114, 111, 122, 101, 110, 95, 105, 109, 112, 111, 114, 116, 108, 105, 98]⟩ 217)⟩, ⟨(PyData.keyHash p ⟨#[95, 95, 102, 105, 114, 115, 116, 108, 105, 110, 101, 110, 111, 95, 95]⟩), (.str ⟨#[95, 95, 102, 105, 114, 115, 116, 108, 105, 110, 101, 110, 111, 95, 95]⟩ 228), (.int (562) 218)⟩, ⟨(PyData.keyHash p ⟨#[95, 95, 100, 111, 99, 95, 95]⟩), (.str ⟨#[95, 95, 100, 111, 99, 95, 95]⟩ 229), (.builtin (String.ofList ['_', 'f', 'r', 'o', 'z', 'e', 'n', '_', 'i', 'm', 'p', 'o', 'r', 't', 'l', 'i', 'b', '.', 'M', 'o', 'd', 'u', 'l', 'e', 'S', 'p', 'e', 'c', '.', '_', '_', 'd', 'o', 'c', '_', '_', ':', 's', 't', 'r', '#', 'o', 'p', 'a', 'q', 'u', 'e']))⟩, ⟨(PyData.keyHash p ⟨#[95, 95, 105, 110, 105, 116, 95, 95]⟩), (.str ⟨#[95, 95, 105, 110, 105, 116, 95, 95]⟩ 230), (.builtin (String.ofList ['_', 'f', 'r', 'o', 'z', 'e', 'n', '_', 'i', 'm', 'p', 'o', 'r', 't', 'l', 'i', 'b', '.', 'M', 'o', 'd', 'u', 'l', 'e', 'S', 'p', 'e', 'c', '.', '_', '_', 'i', 'n', 'i', 't', '_', '_', '#', 'o', 'p', 'a', 'q', 'u', 'e']))⟩, ⟨(PyData.keyHash p ⟨#[95, 95, 114, 101, 112, 114, 95, 95]⟩), (.str ⟨#[95, 95, 114, 101, 112, 114, 95, 95]⟩ 231), (.builtin (String.ofList ['_', 'f', 'r', 'o', 'z', 'e', 'n', '_', 'i', 'm', 'p', 'o', 'r', 't', 'l', 'i', 'b', '.', 'M', 'o', 'd', 'u', 'l', 'e', 'S', 'p', 'e', 'c', '.', '_', '_', 'r', 'e', 'p', 'r', '_', '_', '#', 'o', 'p', 'a', 'q', 'u', 'e']))⟩, ⟨(PyData.keyHash p ⟨#[95, 95, 101, 113, 95, 95]⟩), (.str ⟨#[95, 95, 101, 113, 95, 95]⟩ 232), (.builtin (String.ofList ['_', 'f', 'r', 'o', 'z', 'e', 'n', '_', 'i', 'm', 'p', 'o', 'r', 't', 'l', 'i', 'b', '.', 'M', 'o', 'd', 'u', 'l', 'e', 'S', 'p', 'e', 'c', '.', '_', '_', 'e', 'q', '_', '_', '#', 'o', 'p', 'a', 'q', 'u', 'e']))⟩, ⟨(PyData.keyHash p ⟨#[99, 97, 99, 104, 101, 100]⟩), (.str ⟨#[99, 97, 99, 104, 101, 100]⟩ 233), (.builtin (String.ofList ['_', 'f', 'r', 'o', 'z', 'e', 'n', '_', 'i', 'm', 'p', 'o', 'r', 't', 'l', 'i', 'b', '.', 'M', 'o', 'd', 'u', 'l', 'e', 'S', 'p', 'e', 'c', '.', 'c', 'a', 'c', 'h', 'e', 'd', '#', 'o', 'p', 'a', 'q', 'u', 'e']))⟩, ⟨(PyData.keyHash p ⟨#[112, 97, 114, 101, 110, 116]⟩), (.str ⟨#[112, 97, 114, 101, 110, 116]⟩ 234), (.builtin (String.ofList ['_', 'f', 'r', 'o', 'z', 'e', 'n', '_', 'i', 'm', 'p', 'o', 'r', 't', 'l', 'i', 'b', '.', 'M', 'o', 'd', 'u', 'l', 'e', 'S', 'p', 'e', 'c', '.', 'p', 'a', 'r', 'e', 'n', 't', '#', 'o', 'p', 'a', 'q', 'u', 'e']))⟩, ⟨(PyData.keyHash p ⟨#[104, 97, 115, 95, 108, 111, 99, 97, 116, 105, 111, 110]⟩), (.str ⟨#[104, 97, 115, 95, 108, 111, 99, 97, 116, 105, 111, 110]⟩ 235), (.builtin (String.ofList ['_', 'f', 'r', 'o', 'z', 'e', 'n', '_', 'i', 'm', 'p', 'o', 'r', 't', 'l', 'i', 'b', '.', 'M', 'o', 'd', 'u', 'l', 'e', 'S', 'p', 'e', 'c', '.', 'h', 'a', 's', '_', 'l', 'o', 'c', 'a', 't', 'i', 'o', 'n', '#', 'o', 'p', 'a', 'q', 'u', 'e']))⟩, ⟨(PyData.keyHash p ⟨#[95, 95, 115, 116, 97, 116, 105, 99, 95, 97, 116, 116, 114, 105, 98, 117, 116, 101, 115, 95, 95]⟩), (.str ⟨#[95, 95, 115, 116, 97, 116, 105, 99, 95, 97, 116, 116, 114, 105, 98, 117, 116, 101, 115, 95, 95]⟩ 236), (.ref 23)⟩, ⟨(PyData.keyHash p ⟨#[95, 95, 100, 105, 99, 116, 95, 95]⟩), (.str ⟨#[95, 95, 100, 105, 99, 116, 95, 95]⟩ 238), (.ref 24)⟩, ⟨(PyData.keyHash p ⟨#[95, 95, 119, 101, 97, 107, 114, 101, 102, 95, 95]⟩), (.str ⟨#[95, 95, 119, 101, 97, 107, 114, 101, 102, 95, 95]⟩ 240), (.ref 25)⟩, ⟨(PyData.keyHash p ⟨#[95, 95, 104, 97, 115, 104, 95, 95]⟩), (.str ⟨#[95, 95, 104, 97, 115, 104, 95, 95]⟩ 241), .none⟩] 13), #[]⟩
noncomputable def oE_22 (p : Params) : Obj := ⟨(.type "type"), none, (.cls ⟨⟨#[77, 111, 100, 117, 108, 101, 83, 112, 101, 99]⟩, [(.type "object")], [(.ref 22), (.type "object")], 21, ⟨#[77, 111, 100, 117, 108, 101, 83, 112, 101, 99]⟩, true, [], [], false, none, false⟩), #[]⟩
noncomputable def oE_23 (p : Params) : Obj := ⟨(.type "tuple"), none, (.seq #[(.str ⟨#[95, 99, 97, 99, 104, 101, 100]⟩ 219), (.str ⟨#[95, 115, 101, 116, 95, 102, 105, 108, 101, 97, 116, 116, 114]⟩ 220), (.str ⟨#[95, 117, 110, 105, 110, 105, 116, 105, 97, 108, 105, 122, 101, 100, 95, 115, 117, 98, 109, 111, 100, 117, 108, 101, 115]⟩ 221), (.str ⟨#[108, 111, 97, 100, 101, 114]⟩ 222), (.str ⟨#[108, 111, 97, 100, 101, 114, 95, 115, 116, 97, 116, 101]⟩ 223), (.str ⟨#[110, 97, 109, 101]⟩ 224), (.str ⟨#[111, 114, 105, 103, 105, 110]⟩ 225), (.str ⟨#[115, 117, 98, 109, 111, 100, 117, 108, 101, 95, 115, 101, 97, 114, 99, 104, 95, 108, 111, 99, 97, 116, 105, 111, 110, 115]⟩ 226)] 0), #[]⟩
noncomputable def oE_24 (p : Params) : Obj := ⟨(.type "getset_descriptor"), none, (.fields #[(.str ⟨#[95, 95, 100, 105, 99, 116, 95, 95]⟩ 237), (.ref 22), (.builtin "function.__dict__"), (.builtin "function.__dict__#set")]), #[]⟩
noncomputable def oE_25 (p : Params) : Obj := ⟨(.type "getset_descriptor"), none, (.fields #[(.str ⟨#[95, 95, 119, 101, 97, 107, 114, 101, 102, 95, 95]⟩ 239), (.ref 22), (.builtin "ExceptionGroup.__weakref__"), .none]), #[]⟩
noncomputable def oE_26 (p : Params) : Obj := ⟨(.ref 22), some 20, .plain, #[]⟩
noncomputable def oE_27 (p : Params) : Obj := ⟨.none, none, (.seq #[(.int (11) 0), (.str ⟨#[6, 247, 8, 95, 95, 110, 97, 109, 101, 95, 95, 6, 246, 4, 95, 115, 114, 101, 6, 248, 7, 95, 95, 100, 111, 99, 95, 95, 0, 6, 250, 11, 95, 95, 112, 97, 99, 107, 97, 103, 101, 95, 95, 6, 249, 0, 6, 251, 10, 95, 95, 108, 111, 97, 100, 101, 114, 95, 95, 4, 0, 0, 14, 6, 252, 8, 95, 95, 115, 112, 101, 99, 95, 95, 4, 0, 0, 26, 6, 253, 7, 99, 111, 109, 112, 105, 108, 101, 9, 12, 95, 115, 114, 101, 46, 99, 111, 109, 112, 105, 108, 101, 6, 254, 8, 116, 101, 109, 112, 108, 97, 116, 101, 9, 13, 95, 115, 114, 101, 46, 116, 101, 109, 112, 108, 97, 116, 101, 6, 255, 11, 103, 101, 116, 99, 111, 100, 101, 115, 105, 122, 101, 9, 16, 95, 115, 114, 101, 46, 103, 101, 116, 99, 111, 100, 101, 115, 105, 122, 101, 6, 256, 13, 97, 115, 99, 105, 105, 95, 105, 115, 99, 97, 115, 101, 100, 9, 18, 95, 115, 114, 101, 46, 97, 115, 99, 105, 105, 95, 105, 115, 99, 97, 115, 101, 100, 6, 257, 15, 117, 110, 105, 99, 111, 100, 101, 95, 105, 115, 99, 97, 115, 101, 100, 9, 20, 95, 115, 114, 101, 46, 117, 110, 105, 99, 111, 100, 101, 95, 105, 115, 99, 97, 115, 101, 100, 6, 258, 13, 97, 115, 99, 105, 105, 95, 116, 111, 108, 111, 119, 101, 114, 9, 18, 95, 115, 114, 101, 46, 97, 115, 99, 105, 105, 95, 116, 111, 108, 111, 119, 101, 114, 6, 259, 15, 117, 110, 105, 99, 111, 100, 101, 95, 116, 111, 108, 111, 119, 101, 114, 9, 20, 95, 115, 114, 101, 46, 117, 110, 105, 99, 111, 100, 101, 95, 116, 111, 108, 111, 119, 101, 114, 6, 261, 5, 77, 65, 71, 73, 67, 4, 260, 0, 20230612, 6, 263, 8, 67, 79, 68, 69, 83, 73, 90, 69, 4, 262, 0, 4, 6, 265, 9, 77, 65, 88, 82, 69, 80, 69, 65, 84, 4, 264, 0, 4294967295, 6, 267, 9, 77, 65, 88, 71, 82, 79, 85, 80, 83, 4, 266, 0, 1073741823, 6, 269, 9, 99, 111, 112, 121, 114, 105, 103, 104, 116, 6, 268, 53, 32, 83, 82, 69, 32, 50, 46, 50, 46, 50, 32, 67, 111, 112, 121, 114, 105, 103, 104, 116, 32, 40, 99, 41, 32, 49, 57, 57, 55, 45, 50, 48, 48, 50, 32, 98, 121, 32, 83, 101, 99, 114, 101, 116, 32, 76, 97, 98, 115, 32, 65, 66, 32]⟩ 0), (.bool true), (.bool false), (.str ⟨#[95, 115, 114, 101]⟩ 271)] 0), #[]⟩
noncomputable def hE (p : Params) : Heap := ⟨⟨[(boot_o_0 p), (oE_1 p), (oE_2 p), (oE_3 p), (boot_o_4 p), (boot_o_5 p), (boot_o_6 p), (boot_o_7 p), (boot_o_8 p), (boot_o_9 p), (boot_o_10 p), (oE_11 p), (oE_12 p), (oE_13 p), (oE_14 p), (oE_15 p), (oE_16 p), (oE_17 p), (oE_18 p), (oE_19 p), (oE_20 p), (oE_21 p), (oE_22 p), (oE_23 p), (oE_24 p), (oE_25 p), (oE_26 p), (oE_27 p)]⟩, {}⟩
noncomputable def oS_1 (p : Params) : Obj := ⟨(.type "dict"), none, (.dict #[⟨(PyData.keyHash p ⟨#[98, 117, 105, 108, 116, 105, 110, 115]⟩), (.str ⟨#[98, 117, 105, 108, 116, 105, 110, 115]⟩ 162), (.ref 4)⟩, ⟨(PyData.keyHash p ⟨#[95, 95, 109, 97, 105, 110, 95, 95]⟩), (.str ⟨#[95, 95, 109, 97, 105, 110, 95, 95]⟩ 163), (.ref 5)⟩, ⟨(PyData.keyHash p ⟨#[95, 115, 114, 101]⟩), (.str ⟨#[95, 115, 114, 101]⟩ 244), (.ref 12)⟩] 3), #[]⟩
noncomputable def oS_2 (p : Params) : Obj := ⟨.none, none, (.dict #[⟨(PyData.keyHash p ⟨#[105, 109, 112, 111, 114, 116, 46, 108, 111, 97, 100, 101, 100, 46, 95, 115, 114, 101]⟩), (.str ⟨#[105, 109, 112, 111, 114, 116, 46, 108, 111, 97, 100, 101, 100, 46, 95, 115, 114, 101]⟩ 183), (.bool true)⟩, ⟨(PyData.keyHash p ⟨#[99, 108, 97, 115, 115, 46, 95, 102, 114, 111, 122, 101, 110, 95, 105, 109, 112, 111, 114, 116, 108, 105, 98, 46, 66, 117, 105, 108, 116, 105, 110, 73, 109, 112, 111, 114, 116, 101, 114]⟩), (.str ⟨#[99, 108, 97, 115, 115, 46, 95, 102, 114, 111, 122, 101, 110, 95, 105, 109, 112, 111, 114, 116, 108, 105, 98, 46, 66, 117, 105, 108, 116, 105, 110, 73, 109, 112, 111, 114, 116, 101, 114]⟩ 185), (.ref 14)⟩, ⟨(PyData.keyHash p ⟨#[119, 97, 116, 99, 104, 101, 100, 46, 105, 109, 112, 111, 114, 116]⟩), (.str ⟨#[119, 97, 116, 99, 104, 101, 100, 46, 105, 109, 112, 111, 114, 116]⟩ 206), (.ref 18)⟩, ⟨(PyData.keyHash p ⟨#[99, 108, 97, 115, 115, 46, 95, 102, 114, 111, 122, 101, 110, 95, 105, 109, 112, 111, 114, 116, 108, 105, 98, 46, 77, 111, 100, 117, 108, 101, 83, 112, 101, 99]⟩), (.str ⟨#[99, 108, 97, 115, 115, 46, 95, 102, 114, 111, 122, 101, 110, 95, 105, 109, 112, 111, 114, 116, 108, 105, 98, 46, 77, 111, 100, 117, 108, 101, 83, 112, 101, 99]⟩ 216), (.ref 22)⟩, ⟨(PyData.keyHash p ⟨#[115, 121, 115, 46, 109, 111, 100, 117, 108, 101, 115, 46, 98, 111, 111, 107, 101, 100, 45, 101, 112, 111, 99, 104]⟩), (.str ⟨#[115, 121, 115, 46, 109, 111, 100, 117, 108, 101, 115, 46, 98, 111, 111, 107, 101, 100, 45, 101, 112, 111, 99, 104]⟩ 245), (.int (3) 0)⟩, ⟨(PyData.keyHash p ⟨#[105, 109, 112, 111, 114, 116, 46, 108, 97, 116, 101, 114, 45, 108, 97, 105, 100, 46, 95, 115, 114, 101]⟩), (.str ⟨#[105, 109, 112, 111, 114, 116, 46, 108, 97, 116, 101, 114, 45, 108, 97, 105, 100, 46, 95, 115, 114, 101]⟩ 270), (.bool true)⟩, ⟨(PyData.keyHash p ⟨#[119, 97, 116, 99, 104, 101, 100, 46, 108, 105, 98, 114, 97, 114, 121]⟩), (.str ⟨#[119, 97, 116, 99, 104, 101, 100, 46, 108, 105, 98, 114, 97, 114, 121]⟩ 272), (.ref 27)⟩, ⟨(PyData.keyHash p ⟨#[119, 97, 116, 99, 104, 101, 100, 46, 108, 105, 98, 114, 97, 114, 121, 45, 111, 98, 106, 101, 99, 116, 115]⟩), (.str ⟨#[119, 97, 116, 99, 104, 101, 100, 46, 108, 105, 98, 114, 97, 114, 121, 45, 111, 98, 106, 101, 99, 116, 115]⟩ 0), (.str ⟨#[12]⟩ 0)⟩, ⟨(PyData.keyHash p ⟨#[119, 97, 116, 99, 104, 101, 100, 46, 108, 105, 98, 114, 97, 114, 121, 45, 100, 101, 101, 112, 46, 95, 115, 114, 101]⟩), (.str ⟨#[119, 97, 116, 99, 104, 101, 100, 46, 108, 105, 98, 114, 97, 114, 121, 45, 100, 101, 101, 112, 46, 95, 115, 114, 101]⟩ 273), (.str ⟨#[4, 0, 0, 11, 4, 0, 0, 11, 4, 0, 0, 3, 4, 0, 0, 11, 8, 4, 100, 105, 99, 116, 2]⟩ 0)⟩] 9), #[]⟩
noncomputable def oS_3 (p : Params) : Obj := ⟨(.type "dict"), none, (.dict #[⟨(PyData.keyHash p ⟨#[95, 95, 110, 97, 109, 101, 95, 95]⟩), (.str ⟨#[95, 95, 110, 97, 109, 101, 95, 95]⟩ 165), (.str ⟨#[95, 95, 109, 97, 105, 110, 95, 95]⟩ 164)⟩, ⟨(PyData.keyHash p ⟨#[95, 95, 100, 111, 99, 95, 95]⟩), (.str ⟨#[95, 95, 100, 111, 99, 95, 95]⟩ 166), .none⟩, ⟨(PyData.keyHash p ⟨#[95, 95, 112, 97, 99, 107, 97, 103, 101, 95, 95]⟩), (.str ⟨#[95, 95, 112, 97, 99, 107, 97, 103, 101, 95, 95]⟩ 167), .none⟩, ⟨(PyData.keyHash p ⟨#[95, 95, 108, 111, 97, 100, 101, 114, 95, 95]⟩), (.str ⟨#[95, 95, 108, 111, 97, 100, 101, 114, 95, 95]⟩ 168), (.builtin (String.ofList ['_', '_', 'm', 'a', 'i', 'n', '_', '_', '.', '_', '_', 'l', 'o', 'a', 'd', 'e', 'r', '_', '_', '#', 'o', 'p', 'a', 'q', 'u', 'e']))⟩, ⟨(PyData.keyHash p ⟨#[95, 95, 115, 112, 101, 99, 95, 95]⟩), (.str ⟨#[95, 95, 115, 112, 101, 99, 95, 95]⟩ 169), .none⟩, ⟨(PyData.keyHash p ⟨#[95, 95, 97, 110, 110, 111, 116, 97, 116, 105, 111, 110, 115, 95, 95]⟩), (.str ⟨#[95, 95, 97, 110, 110, 111, 116, 97, 116, 105, 111, 110, 115, 95, 95]⟩ 170), (.ref 6)⟩, ⟨(PyData.keyHash p ⟨#[95, 95, 98, 117, 105, 108, 116, 105, 110, 115, 95, 95]⟩), (.str ⟨#[95, 95, 98, 117, 105, 108, 116, 105, 110, 115, 95, 95]⟩ 171), (.ref 4)⟩, ⟨(PyData.keyHash p ⟨#[95, 95, 102, 105, 108, 101, 95, 95]⟩), (.str ⟨#[95, 95, 102, 105, 108, 101, 95, 95]⟩ 173), (.str ⟨#[47, 99, 108, 97, 105, 109, 47, 99, 117, 116, 46, 112, 121]⟩ 172)⟩, ⟨(PyData.keyHash p ⟨#[95, 95, 99, 97, 99, 104, 101, 100, 95, 95]⟩), (.str ⟨#[95, 95, 99, 97, 99, 104, 101, 100, 95, 95]⟩ 174), .none⟩, ⟨(PyData.keyHash p ⟨#[95, 115, 114, 101]⟩), (.str ⟨#[95, 115, 114, 101]⟩ 275), (.ref 12)⟩] 10), #[]⟩
noncomputable def oS_11 (p : Params) : Obj := ⟨(.type "dict"), none, (.dict #[⟨(PyData.keyHash p ⟨#[95, 95, 110, 97, 109, 101, 95, 95]⟩), (.str ⟨#[95, 95, 110, 97, 109, 101, 95, 95]⟩ 247), (.str ⟨#[95, 115, 114, 101]⟩ 246)⟩, ⟨(PyData.keyHash p ⟨#[95, 95, 100, 111, 99, 95, 95]⟩), (.str ⟨#[95, 95, 100, 111, 99, 95, 95]⟩ 248), .none⟩, ⟨(PyData.keyHash p ⟨#[95, 95, 112, 97, 99, 107, 97, 103, 101, 95, 95]⟩), (.str ⟨#[95, 95, 112, 97, 99, 107, 97, 103, 101, 95, 95]⟩ 250), (.str ⟨#[]⟩ 249)⟩, ⟨(PyData.keyHash p ⟨#[95, 95, 108, 111, 97, 100, 101, 114, 95, 95]⟩), (.str ⟨#[95, 95, 108, 111, 97, 100, 101, 114, 95, 95]⟩ 251), (.builtin (String.ofList ['o', 'f', 'f', '-', 't', 'h', 'e', '-', 't', 'a', 'b', 'l', 'e', ':', '_', 's', 'r', 'e', '.', '_', '_', 'l', 'o', 'a', 'd', 'e', 'r', '_', '_', ':', 's', 'h', 'a', 'r', 'e', 'd', '#', 'o', 'p', 'a', 'q', 'u', 'e']))⟩, ⟨(PyData.keyHash p ⟨#[95, 95, 115, 112, 101, 99, 95, 95]⟩), (.str ⟨#[95, 95, 115, 112, 101, 99, 95, 95]⟩ 252), (.builtin (String.ofList ['o', 'f', 'f', '-', 't', 'h', 'e', '-', 't', 'a', 'b', 'l', 'e', ':', '_', 's', 'r', 'e', '.', '_', '_', 's', 'p', 'e', 'c', '_', '_', ':', 's', 'h', 'a', 'r', 'e', 'd', '#', 'o', 'p', 'a', 'q', 'u', 'e']))⟩, ⟨(PyData.keyHash p ⟨#[99, 111, 109, 112, 105, 108, 101]⟩), (.str ⟨#[99, 111, 109, 112, 105, 108, 101]⟩ 253), (.builtin "_sre.compile")⟩, ⟨(PyData.keyHash p ⟨#[116, 101, 109, 112, 108, 97, 116, 101]⟩), (.str ⟨#[116, 101, 109, 112, 108, 97, 116, 101]⟩ 254), (.builtin (String.ofList ['o', 'f', 'f', '-', 't', 'h', 'e', '-', 't', 'a', 'b', 'l', 'e', ':', '_', 's', 'r', 'e', '.', 't', 'e', 'm', 'p', 'l', 'a', 't', 'e', ':', 's', 'h', 'a', 'r', 'e', 'd', '#', 'o', 'p', 'a', 'q', 'u', 'e']))⟩, ⟨(PyData.keyHash p ⟨#[103, 101, 116, 99, 111, 100, 101, 115, 105, 122, 101]⟩), (.str ⟨#[103, 101, 116, 99, 111, 100, 101, 115, 105, 122, 101]⟩ 255), (.builtin (String.ofList ['o', 'f', 'f', '-', 't', 'h', 'e', '-', 't', 'a', 'b', 'l', 'e', ':', '_', 's', 'r', 'e', '.', 'g', 'e', 't', 'c', 'o', 'd', 'e', 's', 'i', 'z', 'e', ':', 's', 'h', 'a', 'r', 'e', 'd', '#', 'o', 'p', 'a', 'q', 'u', 'e']))⟩, ⟨(PyData.keyHash p ⟨#[97, 115, 99, 105, 105, 95, 105, 115, 99, 97, 115, 101, 100]⟩), (.str ⟨#[97, 115, 99, 105, 105, 95, 105, 115, 99, 97, 115, 101, 100]⟩ 256), (.builtin (String.ofList ['o', 'f', 'f', '-', 't', 'h', 'e', '-', 't', 'a', 'b', 'l', 'e', ':', '_', 's', 'r', 'e', '.', 'a', 's', 'c', 'i', 'i', '_', 'i', 's', 'c', 'a', 's', 'e', 'd', ':', 's', 'h', 'a', 'r', 'e', 'd', '#', 'o', 'p', 'a', 'q', 'u', 'e']))⟩, ⟨(PyData.keyHash p ⟨#[117, 110, 105, 99, 111, 100, 101, 95, 105, 115, 99, 97, 115, 101, 100]⟩), (.str ⟨#[117, 110, 105, 99, 111, 100, 101, 95, 105, 115, 99, 97, 115, 101, 100]⟩ 257), (.builtin (String.ofList ['o', 'f', 'f', '-', 't', 'h', 'e', '-', 't', 'a', 'b', 'l', 'e', ':', '_', 's', 'r', 'e', '.', 'u', 'n', 'i', 'c', 'o', 'd', 'e', '_', 'i', 's', 'c', 'a', 's', 'e', 'd', ':', 's', 'h', 'a', 'r', 'e', 'd', '#', 'o', 'p', 'a', 'q', 'u', 'e']))⟩, ⟨(PyData.keyHash p ⟨#[97, 115, 99, 105, 105, 95, 116, 111, 108, 111, 119, 101, 114]⟩), (.str ⟨#[97, 115, 99, 105, 105, 95, 116, 111, 108, 111, 119, 101, 114]⟩ 258), (.builtin (String.ofList ['o', 'f', 'f', '-', 't', 'h', 'e', '-', 't', 'a', 'b', 'l', 'e', ':', '_', 's', 'r', 'e', '.', 'a', 's', 'c', 'i', 'i', '_', 't', 'o', 'l', 'o', 'w', 'e', 'r', ':', 's', 'h', 'a', 'r', 'e', 'd', '#', 'o', 'p', 'a', 'q', 'u', 'e']))⟩, ⟨(PyData.keyHash p ⟨#[117, 110, 105, 99, 111, 100, 101, 95, 116, 111, 108, 111, 119, 101, 114]⟩), (.str ⟨#[117, 110, 105, 99, 111, 100, 101, 95, 116, 111, 108, 111, 119, 101, 114]⟩ 259), (.builtin (String.ofList ['o', 'f', 'f', '-', 't', 'h', 'e', '-', 't', 'a', 'b', 'l', 'e', ':', '_', 's', 'r', 'e', '.', 'u', 'n', 'i', 'c', 'o', 'd', 'e', '_', 't', 'o', 'l', 'o', 'w', 'e', 'r', ':', 's', 'h', 'a', 'r', 'e', 'd', '#', 'o', 'p', 'a', 'q', 'u', 'e']))⟩, ⟨(PyData.keyHash p ⟨#[77, 65, 71, 73, 67]⟩), (.str ⟨#[77, 65, 71, 73, 67]⟩ 261), (.int (20230612) 260)⟩, ⟨(PyData.keyHash p ⟨#[67, 79, 68, 69, 83, 73, 90, 69]⟩), (.str ⟨#[67, 79, 68, 69, 83, 73, 90, 69]⟩ 263), (.int (4) 262)⟩, ⟨(PyData.keyHash p ⟨#[77, 65, 88, 82, 69, 80, 69, 65, 84]⟩), (.str ⟨#[77, 65, 88, 82, 69, 80, 69, 65, 84]⟩ 265), (.int (4294967295) 264)⟩, ⟨(PyData.keyHash p ⟨#[77, 65, 88, 71, 82, 79, 85, 80, 83]⟩), (.str ⟨#[77, 65, 88, 71, 82, 79, 85, 80, 83]⟩ 267), (.int (1073741823) 266)⟩, ⟨(PyData.keyHash p ⟨#[99, 111, 112, 121, 114, 105, 103, 104, 116]⟩), (.str ⟨#[99, 111, 112, 121, 114, 105, 103, 104, 116]⟩ 269), (.str ⟨#[32, 83, 82, 69, 32, 50, 46, 50, 46, 50, 32, 67, 111, 112, 121, 114, 105, 103, 104, 116, 32, 40, 99, 41, 32, 49, 57, 57, 55, 45, 50, 48, 48, 50, 32, 98, 121, 32, 83, 101, 99, 114, 101, 116, 32, 76, 97, 98, 115, 32, 65, 66, 32]⟩ 268)⟩] 17), #[]⟩
noncomputable def oS_12 (p : Params) : Obj := ⟨(.type "module"), some 11, .plain, #[]⟩
noncomputable def oS_13 (p : Params) : Obj := ⟨(.type "dict"), none, (.dict #[⟨(PyData.keyHash p ⟨#[95, 95, 109, 111, 100, 117, 108, 101, 95, 95]⟩), (.str ⟨#[95, 95, 109, 111, 100, 117, 108, 101, 95, 95]⟩ 189), (.str ⟨#[95, 102, 114, 111, 122, 101, 110, 95, 105, 109, 112, 111, 114, 116, 108, 105, 98]⟩ 186)⟩, ⟨(PyData.keyHash p ⟨#[95, 95, 102, 105, 114, 115, 116, 108, 105, 110, 101, 110, 111, 95, 95]⟩), (.str ⟨#[95, 95, 102, 105, 114, 115, 116, 108, 105, 110, 101, 110, 111, 95, 95]⟩ 190), (.int (971) 187)⟩, ⟨(PyData.keyHash p ⟨#[95, 95, 100, 111, 99, 95, 95]⟩), (.str ⟨#[95, 95, 100, 111, 99, 95, 95]⟩ 191), (.builtin (String.ofList ['_', 'f', 'r', 'o', 'z', 'e', 'n', '_', 'i', 'm', 'p', 'o', 'r', 't', 'l', 'i', 'b', '.', 'B', 'u', 'i', 'l', 't', 'i', 'n', 'I', 'm', 'p', 'o', 'r', 't', 'e', 'r', '.', '_', '_', 'd', 'o', 'c', '_', '_', ':', 's', 't', 'r', '#', 'o', 'p', 'a', 'q', 'u', 'e']))⟩, ⟨(PyData.keyHash p ⟨#[95, 79, 82, 73, 71, 73, 78]⟩), (.str ⟨#[95, 79, 82, 73, 71, 73, 78]⟩ 192), (.str ⟨#[98, 117, 105, 108, 116, 45, 105, 110]⟩ 188)⟩, ⟨(PyData.keyHash p ⟨#[102, 105, 110, 100, 95, 115, 112, 101, 99]⟩), (.str ⟨#[102, 105, 110, 100, 95, 115, 112, 101, 99]⟩ 193), (.builtin (String.ofList ['_', 'f', 'r', 'o', 'z', 'e', 'n', '_', 'i', 'm', 'p', 'o', 'r', 't', 'l', 'i', 'b', '.', 'B', 'u', 'i', 'l', 't', 'i', 'n', 'I', 'm', 'p', 'o', 'r', 't', 'e', 'r', '.', 'f', 'i', 'n', 'd', '_', 's', 'p', 'e', 'c', '#', 'o', 'p', 'a', 'q', 'u', 'e']))⟩, ⟨(PyData.keyHash p ⟨#[99, 114, 101, 97, 116, 101, 95, 109, 111, 100, 117, 108, 101]⟩), (.str ⟨#[99, 114, 101, 97, 116, 101, 95, 109, 111, 100, 117, 108, 101]⟩ 194), (.builtin (String.ofList ['_', 'f', 'r', 'o', 'z', 'e', 'n', '_', 'i', 'm', 'p', 'o', 'r', 't', 'l', 'i', 'b', '.', 'B', 'u', 'i', 'l', 't', 'i', 'n', 'I', 'm', 'p', 'o', 'r', 't', 'e', 'r', '.', 'c', 'r', 'e', 'a', 't', 'e', '_', 'm', 'o', 'd', 'u', 'l', 'e', '#', 'o', 'p', 'a', 'q', 'u', 'e']))⟩, ⟨(PyData.keyHash p ⟨#[101, 120, 101, 99, 95, 109, 111, 100, 117, 108, 101]⟩), (.str ⟨#[101, 120, 101, 99, 95, 109, 111, 100, 117, 108, 101]⟩ 195), (.builtin (String.ofList ['_', 'f', 'r', 'o', 'z', 'e', 'n', '_', 'i', 'm', 'p', 'o', 'r', 't', 'l', 'i', 'b', '.', 'B', 'u', 'i', 'l', 't', 'i', 'n', 'I', 'm', 'p', 'o', 'r', 't', 'e', 'r', '.', 'e', 'x', 'e', 'c', '_', 'm', 'o', 'd', 'u', 'l', 'e', '#', 'o', 'p', 'a', 'q', 'u', 'e']))⟩, ⟨(PyData.keyHash p ⟨#[103, 101, 116, 95, 99, 111, 100, 101]⟩), (.str ⟨#[103, 101, 116, 95, 99, 111, 100, 101]⟩ 196), (.builtin (String.ofList ['_', 'f', 'r', 'o', 'z', 'e', 'n', '_', 'i', 'm', 'p', 'o', 'r', 't', 'l', 'i', 'b', '.', 'B', 'u', 'i', 'l', 't', 'i', 'n', 'I', 'm', 'p', 'o', 'r', 't', 'e', 'r', '.', 'g', 'e', 't', '_', 'c', 'o', 'd', 'e', '#', 'o', 'p', 'a', 'q', 'u', 'e']))⟩, ⟨(PyData.keyHash p ⟨#[103, 101, 116, 95, 115, 111, 117, 114, 99, 101]⟩), (.str ⟨#[103, 101, 116, 95, 115, 111, 117, 114, 99, 101]⟩ 197), (.builtin (String.ofList ['_', 'f', 'r', 'o', 'z', 'e', 'n', '_', 'i', 'm', 'p', 'o', 'r', 't', 'l', 'i', 'b', '.', 'B', 'u', 'i', 'l', 't', 'i', 'n', 'I', 'm', 'p', 'o', 'r', 't', 'e', 'r', '.', 'g', 'e', 't', '_', 's', 'o', 'u', 'r', 'c', 'e', '#', 'o', 'p', 'a', 'q', 'u', 'e']))⟩, ⟨(PyData.keyHash p ⟨#[105, 115, 95, 112, 97, 99, 107, 97, 103, 101]⟩), (.str ⟨#[105, 115, 95, 112, 97, 99, 107, 97, 103, 101]⟩ 198), (.builtin (String.ofList ['_', 'f', 'r', 'o', 'z', 'e', 'n', '_', 'i', 'm', 'p', 'o', 'r', 't', 'l', 'i', 'b', '.', 'B', 'u', 'i', 'l', 't', 'i', 'n', 'I', 'm', 'p', 'o', 'r', 't', 'e', 'r', '.', 'i', 's', '_', 'p', 'a', 'c', 'k', 'a', 'g', 'e', '#', 'o', 'p', 'a', 'q', 'u', 'e']))⟩, ⟨(PyData.keyHash p ⟨#[108, 111, 97, 100, 95, 109, 111, 100, 117, 108, 101]⟩), (.str ⟨#[108, 111, 97, 100, 95, 109, 111, 100, 117, 108, 101]⟩ 199), (.builtin (String.ofList ['_', 'f', 'r', 'o', 'z', 'e', 'n', '_', 'i', 'm', 'p', 'o', 'r', 't', 'l', 'i', 'b', '.', 'B', 'u', 'i', 'l', 't', 'i', 'n', 'I', 'm', 'p', 'o', 'r', 't', 'e', 'r', '.', 'l', 'o', 'a', 'd', '_', 'm', 'o', 'd', 'u', 'l', 'e', '#', 'o', 'p', 'a', 'q', 'u', 'e']))⟩, ⟨(PyData.keyHash p ⟨#[95, 95, 115, 116, 97, 116, 105, 99, 95, 97, 116, 116, 114, 105, 98, 117, 116, 101, 115, 95, 95]⟩), (.str ⟨#[95, 95, 115, 116, 97, 116, 105, 99, 95, 97, 116, 116, 114, 105, 98, 117, 116, 101, 115, 95, 95]⟩ 200), (.ref 15)⟩, ⟨(PyData.keyHash p ⟨#[95, 95, 100, 105, 99, 116, 95, 95]⟩), (.str ⟨#[95, 95, 100, 105, 99, 116, 95, 95]⟩ 202), (.ref 16)⟩, ⟨(PyData.keyHash p ⟨#[95, 95, 119, 101, 97, 107, 114, 101, 102, 95, 95]⟩), (.str ⟨#[95, 95, 119, 101, 97, 107, 114, 101, 102, 95, 95]⟩ 204), (.ref 17)⟩] 14), #[]⟩
noncomputable def oS_14 (p : Params) : Obj := ⟨(.type "type"), none, (.cls ⟨⟨#[66, 117, 105, 108, 116, 105, 110, 73, 109, 112, 111, 114, 116, 101, 114]⟩, [(.type "object")], [(.ref 14), (.type "object")], 13, ⟨#[66, 117, 105, 108, 116, 105, 110, 73, 109, 112, 111, 114, 116, 101, 114]⟩, true, [], [], false, none, false⟩), #[]⟩
noncomputable def oS_15 (p : Params) : Obj := ⟨(.type "tuple"), none, (.seq #[] 0), #[]⟩
noncomputable def oS_16 (p : Params) : Obj := ⟨(.type "getset_descriptor"), none, (.fields #[(.str ⟨#[95, 95, 100, 105, 99, 116, 95, 95]⟩ 201), (.ref 14), (.builtin "function.__dict__"), (.builtin "function.__dict__#set")]), #[]⟩
noncomputable def oS_17 (p : Params) : Obj := ⟨(.type "getset_descriptor"), none, (.fields #[(.str ⟨#[95, 95, 119, 101, 97, 107, 114, 101, 102, 95, 95]⟩ 203), (.ref 14), (.builtin "ExceptionGroup.__weakref__"), .none]), #[]⟩
noncomputable def oS_18 (p : Params) : Obj := ⟨.none, none, (.seq #[(.int (13) 0), (.str ⟨#[6, 189, 10, 95, 95, 109, 111, 100, 117, 108, 101, 95, 95, 6, 186, 17, 95, 102, 114, 111, 122, 101, 110, 95, 105, 109, 112, 111, 114, 116, 108, 105, 98, 6, 190, 15, 95, 95, 102, 105, 114, 115, 116, 108, 105, 110, 101, 110, 111, 95, 95, 4, 187, 0, 971, 6, 191, 7, 95, 95, 100, 111, 99, 95, 95, 9, 52, 95, 102, 114, 111, 122, 101, 110, 95, 105, 109, 112, 111, 114, 116, 108, 105, 98, 46, 66, 117, 105, 108, 116, 105, 110, 73, 109, 112, 111, 114, 116, 101, 114, 46, 95, 95, 100, 111, 99, 95, 95, 58, 115, 116, 114, 35, 111, 112, 97, 113, 117, 101, 6, 192, 7, 95, 79, 82, 73, 71, 73, 78, 6, 188, 8, 98, 117, 105, 108, 116, 45, 105, 110, 6, 193, 9, 102, 105, 110, 100, 95, 115, 112, 101, 99, 9, 50, 95, 102, 114, 111, 122, 101, 110, 95, 105, 109, 112, 111, 114, 116, 108, 105, 98, 46, 66, 117, 105, 108, 116, 105, 110, 73, 109, 112, 111, 114, 116, 101, 114, 46, 102, 105, 110, 100, 95, 115, 112, 101, 99, 35, 111, 112, 97, 113, 117, 101, 6, 194, 13, 99, 114, 101, 97, 116, 101, 95, 109, 111, 100, 117, 108, 101, 9, 54, 95, 102, 114, 111, 122, 101, 110, 95, 105, 109, 112, 111, 114, 116, 108, 105, 98, 46, 66, 117, 105, 108, 116, 105, 110, 73, 109, 112, 111, 114, 116, 101, 114, 46, 99, 114, 101, 97, 116, 101, 95, 109, 111, 100, 117, 108, 101, 35, 111, 112, 97, 113, 117, 101, 6, 195, 11, 101, 120, 101, 99, 95, 109, 111, 100, 117, 108, 101, 9, 52, 95, 102, 114, 111, 122, 101, 110, 95, 105, 109, 112, 111, 114, 116, 108, 105, 98, 46, 66, 117, 105, 108, 116, 105, 110, 73, 109, 112, 111, 114, 116, 101, 114, 46, 101, 120, 101, 99, 95, 109, 111, 100, 117, 108, 101, 35, 111, 112, 97, 113, 117, 101, 6, 196, 8, 103, 101, 116, 95, 99, 111, 100, 101, 9, 49, 95, 102, 114, 111, 122, 101, 110, 95, 105, 109, 112, 111, 114, 116, 108, 105, 98, 46, 66, 117, 105, 108, 116, 105, 110, 73, 109, 112, 111, 114, 116, 101, 114, 46, 103, 101, 116, 95, 99, 111, 100, 101, 35, 111, 112, 97, 113, 117, 101, 6, 197, 10, 103, 101, 116, 95, 115, 111, 117, 114, 99, 101, 9, 51, 95, 102, 114, 111, 122, 101, 110, 95, 105, 109, 112, 111, 114, 116, 108, 105, 98, 46, 66, 117, 105, 108, 116, 105, 110, 73, 109, 112, 111, 114, 116, 101, 114, 46, 103, 101, 116, 95, 115, 111, 117, 114, 99, 101, 35, 111, 112, 97, 113, 117, 101, 6, 198, 10, 105, 115, 95, 112, 97, 99, 107, 97, 103, 101, 9, 51, 95, 102, 114, 111, 122, 101, 110, 95, 105, 109, 112, 111, 114, 116, 108, 105, 98, 46, 66, 117, 105, 108, 116, 105, 110, 73, 109, 112, 111, 114, 116, 101, 114, 46, 105, 115, 95, 112, 97, 99, 107, 97, 103, 101, 35, 111, 112, 97, 113, 117, 101, 6, 199, 11, 108, 111, 97, 100, 95, 109, 111, 100, 117, 108, 101, 9, 52, 95, 102, 114, 111, 122, 101, 110, 95, 105, 109, 112, 111, 114, 116, 108, 105, 98, 46, 66, 117, 105, 108, 116, 105, 110, 73, 109, 112, 111, 114, 116, 101, 114, 46, 108, 111, 97, 100, 95, 109, 111, 100, 117, 108, 101, 35, 111, 112, 97, 113, 117, 101, 6, 200, 21, 95, 95, 115, 116, 97, 116, 105, 99, 95, 97, 116, 116, 114, 105, 98, 117, 116, 101, 115, 95, 95, 4, 0, 0, 15, 6, 202, 8, 95, 95, 100, 105, 99, 116, 95, 95, 4, 0, 0, 16, 6, 204, 11, 95, 95, 119, 101, 97, 107, 114, 101, 102, 95, 95, 4, 0, 0, 17]⟩ 0), (.bool true), (.bool true), (.str ⟨#[]⟩ 205), (.int (21) 0), (.str ⟨#[6, 227, 10, 95, 95, 109, 111, 100, 117, 108, 101, 95, 95, 6, 217, 17, 95, 102, 114, 111, 122, 101, 110, 95, 105, 109, 112, 111, 114, 116, 108, 105, 98, 6, 228, 15, 95, 95, 102, 105, 114, 115, 116, 108, 105, 110, 101, 110, 111, 95, 95, 4, 218, 0, 562, 6, 229, 7, 95, 95, 100, 111, 99, 95, 95, 9, 47, 95, 102, 114, 111, 122, 101, 110, 95, 105, 109, 112, 111, 114, 116, 108, 105, 98, 46, 77, 111, 100, 117, 108, 101, 83, 112, 101, 99, 46, 95, 95, 100, 111, 99, 95, 95, 58, 115, 116, 114, 35, 111, 112, 97, 113, 117, 101, 6, 230, 8, 95, 95, 105, 110, 105, 116, 95, 95, 9, 44, 95, 102, 114, 111, 122, 101, 110, 95, 105, 109, 112, 111, 114, 116, 108, 105, 98, 46, 77, 111, 100, 117, 108, 101, 83, 112, 101, 99, 46, 95, 95, 105, 110, 105, 116, 95, 95, 35, 111, 112, 97, 113, 117, 101, 6, 231, 8, 95, 95, 114, 101, 112, 114, 95, 95, 9, 44, 95, 102, 114, 111, 122, 101, 110, 95, 105, 109, 112, 111, 114, 116, 108, 105, 98, 46, 77, 111, 100, 117, 108, 101, 83, 112, 101, 99, 46, 95, 95, 114, 101, 112, 114, 95, 95, 35, 111, 112, 97, 113, 117, 101, 6, 232, 6, 95, 95, 101, 113, 95, 95, 9, 42, 95, 102, 114, 111, 122, 101, 110, 95, 105, 109, 112, 111, 114, 116, 108, 105, 98, 46, 77, 111, 100, 117, 108, 101, 83, 112, 101, 99, 46, 95, 95, 101, 113, 95, 95, 35, 111, 112, 97, 113, 117, 101, 6, 233, 6, 99, 97, 99, 104, 101, 100, 9, 42, 95, 102, 114, 111, 122, 101, 110, 95, 105, 109, 112, 111, 114, 116, 108, 105, 98, 46, 77, 111, 100, 117, 108, 101, 83, 112, 101, 99, 46, 99, 97, 99, 104, 101, 100, 35, 111, 112, 97, 113, 117, 101, 6, 234, 6, 112, 97, 114, 101, 110, 116, 9, 42, 95, 102, 114, 111, 122, 101, 110, 95, 105, 109, 112, 111, 114, 116, 108, 105, 98, 46, 77, 111, 100, 117, 108, 101, 83, 112, 101, 99, 46, 112, 97, 114, 101, 110, 116, 35, 111, 112, 97, 113, 117, 101, 6, 235, 12, 104, 97, 115, 95, 108, 111, 99, 97, 116, 105, 111, 110, 9, 48, 95, 102, 114, 111, 122, 101, 110, 95, 105, 109, 112, 111, 114, 116, 108, 105, 98, 46, 77, 111, 100, 117, 108, 101, 83, 112, 101, 99, 46, 104, 97, 115, 95, 108, 111, 99, 97, 116, 105, 111, 110, 35, 111, 112, 97, 113, 117, 101, 6, 236, 21, 95, 95, 115, 116, 97, 116, 105, 99, 95, 97, 116, 116, 114, 105, 98, 117, 116, 101, 115, 95, 95, 4, 0, 0, 23, 6, 238, 8, 95, 95, 100, 105, 99, 116, 95, 95, 4, 0, 0, 24, 6, 240, 11, 95, 95, 119, 101, 97, 107, 114, 101, 102, 95, 95, 4, 0, 0, 25, 6, 241, 8, 95, 95, 104, 97, 115, 104, 95, 95, 0]⟩ 0), (.bool true), (.bool true), (.str ⟨#[]⟩ 242)] 1), #[]⟩
noncomputable def oS_20 (p : Params) : Obj := ⟨(.type "dict"), none, (.dict #[⟨(PyData.keyHash p ⟨#[110, 97, 109, 101]⟩), (.str ⟨#[110, 97, 109, 101]⟩ 208), (.str ⟨#[95, 115, 114, 101]⟩ 207)⟩, ⟨(PyData.keyHash p ⟨#[108, 111, 97, 100, 101, 114]⟩), (.str ⟨#[108, 111, 97, 100, 101, 114]⟩ 209), (.ref 14)⟩, ⟨(PyData.keyHash p ⟨#[111, 114, 105, 103, 105, 110]⟩), (.str ⟨#[111, 114, 105, 103, 105, 110]⟩ 210), (.str ⟨#[98, 117, 105, 108, 116, 45, 105, 110]⟩ 184)⟩, ⟨(PyData.keyHash p ⟨#[108, 111, 97, 100, 101, 114, 95, 115, 116, 97, 116, 101]⟩), (.str ⟨#[108, 111, 97, 100, 101, 114, 95, 115, 116, 97, 116, 101]⟩ 211), .none⟩, ⟨(PyData.keyHash p ⟨#[115, 117, 98, 109, 111, 100, 117, 108, 101, 95, 115, 101, 97, 114, 99, 104, 95, 108, 111, 99, 97, 116, 105, 111, 110, 115]⟩), (.str ⟨#[115, 117, 98, 109, 111, 100, 117, 108, 101, 95, 115, 101, 97, 114, 99, 104, 95, 108, 111, 99, 97, 116, 105, 111, 110, 115]⟩ 212), .none⟩, ⟨(PyData.keyHash p ⟨#[95, 117, 110, 105, 110, 105, 116, 105, 97, 108, 105, 122, 101, 100, 95, 115, 117, 98, 109, 111, 100, 117, 108, 101, 115]⟩), (.str ⟨#[95, 117, 110, 105, 110, 105, 116, 105, 97, 108, 105, 122, 101, 100, 95, 115, 117, 98, 109, 111, 100, 117, 108, 101, 115]⟩ 213), (.ref 19)⟩, ⟨(PyData.keyHash p ⟨#[95, 115, 101, 116, 95, 102, 105, 108, 101, 97, 116, 116, 114]⟩), (.str ⟨#[95, 115, 101, 116, 95, 102, 105, 108, 101, 97, 116, 116, 114]⟩ 214), (.bool false)⟩, ⟨(PyData.keyHash p ⟨#[95, 99, 97, 99, 104, 101, 100]⟩), (.str ⟨#[95, 99, 97, 99, 104, 101, 100]⟩ 215), .none⟩, ⟨(PyData.keyHash p ⟨#[95, 105, 110, 105, 116, 105, 97, 108, 105, 122, 105, 110, 103]⟩), (.str ⟨#[95, 105, 110, 105, 116, 105, 97, 108, 105, 122, 105, 110, 103]⟩ 243), (.bool false)⟩] 9), #[]⟩
noncomputable def oS_21 (p : Params) : Obj := ⟨(.type "dict"), none, (.dict #[⟨(PyData.keyHash p ⟨#[95, 95, 109, 111, 100, 117, 108, 101, 95, 95]⟩), (.str ⟨#[95, 95, 109, 111, 100, 117, 108, 101, 95, 95]⟩ 227), (.str ⟨#[95, 102, 114, 111, 122, 101, 110, 95, 105, 109, 112, 111, 114, 116, 108, 105, 98]⟩ 217)⟩, ⟨(PyData.keyHash p ⟨#[95, 95, 102, 105, 114, 115, 116, 108, 105, 110, 101, 110, 111, 95, 95]⟩), (.str ⟨#[95, 95, 102, 105, 114, 115, 116, 108, 105, 110, 101, 110, 111, 95, 95]⟩ 228), (.int (562) 218)⟩, ⟨(PyData.keyHash p ⟨#[95, 95, 100, 111, 99, 95, 95]⟩), (.str ⟨#[95, 95, 100, 111, 99, 95, 95]⟩ 229), (.builtin (String.ofList ['_', 'f', 'r', 'o', 'z', 'e', 'n', '_', 'i', 'm', 'p', 'o', 'r', 't', 'l', 'i', 'b', '.', 'M', 'o', 'd', 'u', 'l', 'e', 'S', 'p', 'e', 'c', '.', '_', '_', 'd', 'o', 'c', '_', '_', ':', 's', 't', 'r', '#', 'o', 'p', 'a', 'q', 'u', 'e']))⟩, ⟨(PyData.keyHash p ⟨#[95, 95, 105, 110, 105, 116, 95, 95]⟩), (.str ⟨#[95, 95, 105, 110, 105, 116, 95, 95]⟩ 230), (.builtin (String.ofList ['_', 'f', 'r', 'o', 'z', 'e', 'n', '_', 'i', 'm', 'p', 'o', 'r', 't', 'l', 'i', 'b', '.', 'M', 'o', 'd', 'u', 'l', 'e', 'S', 'p', 'e', 'c', '.', '_', '_', 'i', 'n', 'i', 't', '_', '_', '#', 'o', 'p', 'a', 'q', 'u', 'e']))⟩, ⟨(PyData.keyHash p ⟨#[95, 95, 114, 101, 112, 114, 95, 95]⟩), (.str ⟨#[95, 95, 114, 101, 112, 114, 95, 95]⟩ 231), (.builtin (String.ofList ['_', 'f', 'r', 'o', 'z', 'e', 'n', '_', 'i', 'm', 'p', 'o', 'r', 't', 'l', 'i', 'b', '.', 'M', 'o', 'd', 'u', 'l', 'e', 'S', 'p', 'e', 'c', '.', '_', '_', 'r', 'e', 'p', 'r', '_', '_', '#', 'o', 'p', 'a', 'q', 'u', 'e']))⟩, ⟨(PyData.keyHash p ⟨#[95, 95, 101, 113, 95, 95]⟩), (.str ⟨#[95, 95, 101, 113, 95, 95]⟩ 232), (.builtin (String.ofList ['_', 'f', 'r', 'o', 'z', 'e', 'n', '_', 'i', 'm', 'p', 'o', 'r', 't', 'l', 'i', 'b', '.', 'M', 'o', 'd', 'u', 'l', 'e', 'S', 'p', 'e', 'c', '.', '_', '_', 'e', 'q', '_', '_', '#', 'o', 'p', 'a', 'q', 'u', 'e']))⟩, ⟨(PyData.keyHash p ⟨#[99, 97, 99, 104, 101, 100]⟩), (.str ⟨#[99, 97, 99, 104, 101, 100]⟩ 233), (.builtin (String.ofList ['_', 'f', 'r', 'o', 'z', 'e', 'n', '_', 'i', 'm', 'p', 'o', 'r', 't', 'l', 'i', 'b', '.', 'M', 'o', 'd', 'u', 'l', 'e', 'S', 'p', 'e', 'c', '.', 'c', 'a', 'c', 'h', 'e', 'd', '#', 'o', 'p', 'a', 'q', 'u', 'e']))⟩, ⟨(PyData.keyHash p ⟨#[112, 97, 114, 101, 110, 116]⟩), (.str ⟨#[112, 97, 114, 101, 110, 116]⟩ 234), (.builtin (String.ofList ['_', 'f', 'r', 'o', 'z', 'e', 'n', '_', 'i', 'm', 'p', 'o', 'r', 't', 'l', 'i', 'b', '.', 'M', 'o', 'd', 'u', 'l', 'e', 'S', 'p', 'e', 'c', '.', 'p', 'a', 'r', 'e', 'n', 't', '#', 'o', 'p', 'a', 'q', 'u', 'e']))⟩, ⟨(PyData.keyHash p ⟨#[104, 97, 115, 95, 108, 111, 99, 97, 116, 105, 111, 110]⟩), (.str ⟨#[104, 97, 115, 95, 108, 111, 99, 97, 116, 105, 111, 110]⟩ 235), (.builtin (String.ofList ['_', 'f', 'r', 'o', 'z', 'e', 'n', '_', 'i', 'm', 'p', 'o', 'r', 't', 'l', 'i', 'b', '.', 'M', 'o', 'd', 'u', 'l', 'e', 'S', 'p', 'e', 'c', '.', 'h', 'a', 's', '_', 'l', 'o', 'c', 'a', 't', 'i', 'o', 'n', '#', 'o', 'p', 'a', 'q', 'u', 'e']))⟩, ⟨(PyData.keyHash p ⟨#[95, 95, 115, 116, 97, 116, 105, 99, 95, 97, 116, 116, 114, 105, 98, 117, 116, 101, 115, 95, 95]⟩), (.str ⟨#[95, 95, 115, 116, 97, 116, 105, 99, 95, 97, 116, 116, 114, 105, 98, 117, 116, 101, 115, 95, 95]⟩ 236), (.ref 23)⟩, ⟨(PyData.keyHash p ⟨#[95, 95, 100, 105, 99, 116, 95, 95]⟩), (.str ⟨#[95, 95, 100, 105, 99, 116, 95, 95]⟩ 238), (.ref 24)⟩, ⟨(PyData.keyHash p ⟨#[95, 95, 119, 101, 97, 107, 114, 101, 102, 95, 95]⟩), (.str ⟨#[95, 95, 119, 101, 97, 107, 114, 101, 102, 95, 95]⟩ 240), (.ref 25)⟩, ⟨(PyData.keyHash p ⟨#[95, 95, 104, 97, 115, 104, 95, 95]⟩), (.str ⟨#[95, 95, 104, 97, 115, 104, 95, 95]⟩ 241), .none⟩] 13), #[]⟩
noncomputable def oS_22 (p : Params) : Obj := ⟨(.type "type"), none, (.cls ⟨⟨#[77, 111, 100, 117, 108, 101, 83, 112, 101, 99]⟩, [(.type "object")], [(.ref 22), (.type "object")], 21, ⟨#[77, 111, 100, 117, 108, 101, 83, 112, 101, 99]⟩, true, [], [], false, none, false⟩), #[]⟩
noncomputable def oS_23 (p : Params) : Obj := ⟨(.type "tuple"), none, (.seq #[(.str ⟨#[95, 99, 97, 99, 104, 101, 100]⟩ 219), (.str ⟨#[95, 115, 101, 116, 95, 102, 105, 108, 101, 97, 116, 116, 114]⟩ 220), (.str ⟨#[95, 117, 110, 105, 110, 105, 116, 105, 97, 108, 105, 122, 101, 100, 95, 115, 117, 98, 109, 111, 100, 117, 108, 101, 115]⟩ 221), (.str ⟨#[108, 111, 97, 100, 101, 114]⟩ 222), (.str ⟨#[108, 111, 97, 100, 101, 114, 95, 115, 116, 97, 116, 101]⟩ 223), (.str ⟨#[110, 97, 109, 101]⟩ 224), (.str ⟨#[111, 114, 105, 103, 105, 110]⟩ 225), (.str ⟨#[115, 117, 98, 109, 111, 100, 117, 108, 101, 95, 115, 101, 97, 114, 99, 104, 95, 108, 111, 99, 97, 116, 105, 111, 110, 115]⟩ 226)] 0), #[]⟩
noncomputable def oS_24 (p : Params) : Obj := ⟨(.type "getset_descriptor"), none, (.fields #[(.str ⟨#[95, 95, 100, 105, 99, 116, 95, 95]⟩ 237), (.ref 22), (.builtin "function.__dict__"), (.builtin "function.__dict__#set")]), #[]⟩
noncomputable def oS_25 (p : Params) : Obj := ⟨(.type "getset_descriptor"), none, (.fields #[(.str ⟨#[95, 95, 119, 101, 97, 107, 114, 101, 102, 95, 95]⟩ 239), (.ref 22), (.builtin "ExceptionGroup.__weakref__"), .none]), #[]⟩
noncomputable def oS_26 (p : Params) : Obj := ⟨(.ref 22), some 20, .plain, #[]⟩
noncomputable def oS_27 (p : Params) : Obj := ⟨.none, none, (.seq #[(.int (11) 0), (.str ⟨#[6, 247, 8, 95, 95, 110, 97, 109, 101, 95, 95, 6, 246, 4, 95, 115, 114, 101, 6, 248, 7, 95, 95, 100, 111, 99, 95, 95, 0, 6, 250, 11, 95, 95, 112, 97, 99, 107, 97, 103, 101, 95, 95, 6, 249, 0, 6, 251, 10, 95, 95, 108, 111, 97, 100, 101, 114, 95, 95, 4, 0, 0, 14, 6, 252, 8, 95, 95, 115, 112, 101, 99, 95, 95, 4, 0, 0, 26, 6, 253, 7, 99, 111, 109, 112, 105, 108, 101, 9, 12, 95, 115, 114, 101, 46, 99, 111, 109, 112, 105, 108, 101, 6, 254, 8, 116, 101, 109, 112, 108, 97, 116, 101, 9, 13, 95, 115, 114, 101, 46, 116, 101, 109, 112, 108, 97, 116, 101, 6, 255, 11, 103, 101, 116, 99, 111, 100, 101, 115, 105, 122, 101, 9, 16, 95, 115, 114, 101, 46, 103, 101, 116, 99, 111, 100, 101, 115, 105, 122, 101, 6, 256, 13, 97, 115, 99, 105, 105, 95, 105, 115, 99, 97, 115, 101, 100, 9, 18, 95, 115, 114, 101, 46, 97, 115, 99, 105, 105, 95, 105, 115, 99, 97, 115, 101, 100, 6, 257, 15, 117, 110, 105, 99, 111, 100, 101, 95, 105, 115, 99, 97, 115, 101, 100, 9, 20, 95, 115, 114, 101, 46, 117, 110, 105, 99, 111, 100, 101, 95, 105, 115, 99, 97, 115, 101, 100, 6, 258, 13, 97, 115, 99, 105, 105, 95, 116, 111, 108, 111, 119, 101, 114, 9, 18, 95, 115, 114, 101, 46, 97, 115, 99, 105, 105, 95, 116, 111, 108, 111, 119, 101, 114, 6, 259, 15, 117, 110, 105, 99, 111, 100, 101, 95, 116, 111, 108, 111, 119, 101, 114, 9, 20, 95, 115, 114, 101, 46, 117, 110, 105, 99, 111, 100, 101, 95, 116, 111, 108, 111, 119, 101, 114, 6, 261, 5, 77, 65, 71, 73, 67, 4, 260, 0, 20230612, 6, 263, 8, 67, 79, 68, 69, 83, 73, 90, 69, 4, 262, 0, 4, 6, 265, 9, 77, 65, 88, 82, 69, 80, 69, 65, 84, 4, 264, 0, 4294967295, 6, 267, 9, 77, 65, 88, 71, 82, 79, 85, 80, 83, 4, 266, 0, 1073741823, 6, 269, 9, 99, 111, 112, 121, 114, 105, 103, 104, 116, 6, 268, 53, 32, 83, 82, 69, 32, 50, 46, 50, 46, 50, 32, 67, 111, 112, 121, 114, 105, 103, 104, 116, 32, 40, 99, 41, 32, 49, 57, 57, 55, 45, 50, 48, 48, 50, 32, 98, 121, 32, 83, 101, 99, 114, 101, 116, 32, 76, 97, 98, 115, 32, 65, 66, 32]⟩ 0), (.bool true), (.bool false), (.str ⟨#[95, 115, 114, 101]⟩ 271)] 0), #[]⟩
noncomputable def hS (p : Params) : Heap := ⟨⟨[(boot_o_0 p), (oS_1 p), (oS_2 p), (oS_3 p), (boot_o_4 p), (boot_o_5 p), (boot_o_6 p), (boot_o_7 p), (boot_o_8 p), (boot_o_9 p), (boot_o_10 p), (oS_11 p), (oS_12 p), (oS_13 p), (oS_14 p), (oS_15 p), (oS_16 p), (oS_17 p), (oS_18 p), (oE_19 p), (oS_20 p), (oS_21 p), (oS_22 p), (oS_23 p), (oS_24 p), (oS_25 p), (oS_26 p), (oS_27 p)]⟩, {}⟩
noncomputable def oP_28 (p : Params) : Obj := ⟨(.type "tuple"), none, (.seq #[] 0), #[]⟩
noncomputable def oP_29 (p : Params) : Obj := ⟨.none, none, (.fields #[]), #[]⟩
noncomputable def oP_30 (p : Params) : Obj := ⟨(.type "code"), none, (.fields #[(.str ⟨#[60, 109, 111, 100, 117, 108, 101, 62]⟩ 277), (.str ⟨#[60, 109, 111, 100, 117, 108, 101, 62]⟩ 278), (.str ⟨#[47, 99, 108, 97, 105, 109, 47, 99, 117, 116, 46, 112, 121]⟩ 279), (.int (1) 0), (.int (0) 0), (.int (0) 0), (.int (0) 0), (.int (0) 0), (.ref 28), (.bool false), (.int (276) 0), (.ref 29), .none, .none, .none, .none, (.int (280) 0), (.int (1) 0), (.str ⟨#[47, 99, 108, 97, 105, 109, 47, 99, 117, 116, 46, 112, 121]⟩ 281)]), #[]⟩
noncomputable def oP_31 (p : Params) : Obj := ⟨(.type "frame"), none, .plain, #[some (.ref 30), some (.ref 3), some (.ref 3), none, some (.str ⟨#[95, 95, 109, 97, 105, 110, 95, 95]⟩ 164), none, some (.ref 0)]⟩
noncomputable def hP (p : Params) : Heap := ⟨⟨[(boot_o_0 p), (oS_1 p), (oS_2 p), (oS_3 p), (boot_o_4 p), (boot_o_5 p), (boot_o_6 p), (boot_o_7 p), (boot_o_8 p), (boot_o_9 p), (boot_o_10 p), (oS_11 p), (oS_12 p), (oS_13 p), (oS_14 p), (oS_15 p), (oS_16 p), (oS_17 p), (oS_18 p), (oE_19 p), (oS_20 p), (oS_21 p), (oS_22 p), (oS_23 p), (oS_24 p), (oS_25 p), (oS_26 p), (oS_27 p), (oP_28 p), (oP_29 p), (oP_30 p), (oP_31 p)]⟩, {}⟩
noncomputable def tP (p : Params) : BT := (.node (boot_o_0 p) (.node (oS_1 p) (.node (oS_3 p) (.node (boot_o_7 p) (.node (oS_15 p) (.node (oP_31 p) .nil .nil) .nil) (.node (oS_23 p) .nil .nil)) (.node (oS_11 p) (.node (oE_19 p) .nil .nil) (.node (oS_27 p) .nil .nil))) (.node (boot_o_5 p) (.node (boot_o_9 p) (.node (oS_17 p) .nil .nil) (.node (oS_25 p) .nil .nil)) (.node (oS_13 p) (.node (oS_21 p) .nil .nil) (.node (oP_29 p) .nil .nil)))) (.node (oS_2 p) (.node (boot_o_4 p) (.node (boot_o_8 p) (.node (oS_16 p) .nil .nil) (.node (oS_24 p) .nil .nil)) (.node (oS_12 p) (.node (oS_20 p) .nil .nil) (.node (oP_28 p) .nil .nil))) (.node (boot_o_6 p) (.node (boot_o_10 p) (.node (oS_18 p) .nil .nil) (.node (oS_26 p) .nil .nil)) (.node (oS_14 p) (.node (oS_22 p) .nil .nil) (.node (oP_30 p) .nil .nil)))))
noncomputable def o1_3 (p : Params) : Obj := ⟨(.type "dict"), none, (.dict #[⟨(PyData.keyHash p ⟨#[95, 95, 110, 97, 109, 101, 95, 95]⟩), (.str ⟨#[95, 95, 110, 97, 109, 101, 95, 95]⟩ 165), (.str ⟨#[95, 95, 109, 97, 105, 110, 95, 95]⟩ 164)⟩, ⟨(PyData.keyHash p ⟨#[95, 95, 100, 111, 99, 95, 95]⟩), (.str ⟨#[95, 95, 100, 111, 99, 95, 95]⟩ 166), .none⟩, ⟨(PyData.keyHash p ⟨#[95, 95, 112, 97, 99, 107, 97, 103, 101, 95, 95]⟩), (.str ⟨#[95, 95, 112, 97, 99, 107, 97, 103, 101, 95, 95]⟩ 167), .none⟩, ⟨(PyData.keyHash p ⟨#[95, 95, 108, 111, 97, 100, 101, 114, 95, 95]⟩), (.str ⟨#[95, 95, 108, 111, 97, 100, 101, 114, 95, 95]⟩ 168), (.builtin (String.ofList ['_', '_', 'm', 'a', 'i', 'n', '_', '_', '.', '_', '_', 'l', 'o', 'a', 'd', 'e', 'r', '_', '_', '#', 'o', 'p', 'a', 'q', 'u', 'e']))⟩, ⟨(PyData.keyHash p ⟨#[95, 95, 115, 112, 101, 99, 95, 95]⟩), (.str ⟨#[95, 95, 115, 112, 101, 99, 95, 95]⟩ 169), .none⟩, ⟨(PyData.keyHash p ⟨#[95, 95, 97, 110, 110, 111, 116, 97, 116, 105, 111, 110, 115, 95, 95]⟩), (.str ⟨#[95, 95, 97, 110, 110, 111, 116, 97, 116, 105, 111, 110, 115, 95, 95]⟩ 170), (.ref 6)⟩, ⟨(PyData.keyHash p ⟨#[95, 95, 98, 117, 105, 108, 116, 105, 110, 115, 95, 95]⟩), (.str ⟨#[95, 95, 98, 117, 105, 108, 116, 105, 110, 115, 95, 95]⟩ 171), (.ref 4)⟩, ⟨(PyData.keyHash p ⟨#[95, 95, 102, 105, 108, 101, 95, 95]⟩), (.str ⟨#[95, 95, 102, 105, 108, 101, 95, 95]⟩ 173), (.str ⟨#[47, 99, 108, 97, 105, 109, 47, 99, 117, 116, 46, 112, 121]⟩ 172)⟩, ⟨(PyData.keyHash p ⟨#[95, 95, 99, 97, 99, 104, 101, 100, 95, 95]⟩), (.str ⟨#[95, 95, 99, 97, 99, 104, 101, 100, 95, 95]⟩ 174), .none⟩, ⟨(PyData.keyHash p ⟨#[95, 115, 114, 101]⟩), (.str ⟨#[95, 115, 114, 101]⟩ 275), (.ref 12)⟩, ⟨(PyData.keyHash p ⟨#[95, 116, 119, 105, 110, 95, 114, 101, 95, 49]⟩), (.str ⟨#[95, 116, 119, 105, 110, 95, 114, 101, 95, 49]⟩ 316), (.ref 36)⟩, ⟨(PyData.keyHash p ⟨#[95, 81, 85, 79, 80, 82, 73, 95, 77, 65, 80]⟩), (.str ⟨#[95, 81, 85, 79, 80, 82, 73, 95, 77, 65, 80]⟩ 1344), (.ref 39)⟩] 12), #[]⟩
noncomputable def o1_39 (p : Params) : Obj := ⟨(.type "list"), none, (.seq #[(.str ⟨#[61, 48, 48]⟩ 323), (.str ⟨#[61, 48, 49]⟩ 327), (.str ⟨#[61, 48, 50]⟩ 331), (.str ⟨#[61, 48, 51]⟩ 335), (.str ⟨#[61, 48, 52]⟩ 339), (.str ⟨#[61, 48, 53]⟩ 343), (.str ⟨#[61, 48, 54]⟩ 347), (.str ⟨#[61, 48, 55]⟩ 351), (.str ⟨#[61, 48, 56]⟩ 355), (.str ⟨#[61, 48, 57]⟩ 359), (.str ⟨#[61, 48, 65]⟩ 363), (.str ⟨#[61, 48, 66]⟩ 367), (.str ⟨#[61, 48, 67]⟩ 371), (.str ⟨#[61, 48, 68]⟩ 375), (.str ⟨#[61, 48, 69]⟩ 379), (.str ⟨#[61, 48, 70]⟩ 383), (.str ⟨#[61, 49, 48]⟩ 387), (.str ⟨#[61, 49, 49]⟩ 391), (.str ⟨#[61, 49, 50]⟩ 395), (.str ⟨#[61, 49, 51]⟩ 399), (.str ⟨#[61, 49, 52]⟩ 403), (.str ⟨#[61, 49, 53]⟩ 407), (.str ⟨#[61, 49, 54]⟩ 411), (.str ⟨#[61, 49, 55]⟩ 415), (.str ⟨#[61, 49, 56]⟩ 419), (.str ⟨#[61, 49, 57]⟩ 423), (.str ⟨#[61, 49, 65]⟩ 427), (.str ⟨#[61, 49, 66]⟩ 431), (.str ⟨#[61, 49, 67]⟩ 435), (.str ⟨#[61, 49, 68]⟩ 439), (.str ⟨#[61, 49, 69]⟩ 443), (.str ⟨#[61, 49, 70]⟩ 447), (.str ⟨#[61, 50, 48]⟩ 451), (.str ⟨#[61, 50, 49]⟩ 455), (.str ⟨#[61, 50, 50]⟩ 459), (.str ⟨#[61, 50, 51]⟩ 463), (.str ⟨#[61, 50, 52]⟩ 467), (.str ⟨#[61, 50, 53]⟩ 471), (.str ⟨#[61, 50, 54]⟩ 475), (.str ⟨#[61, 50, 55]⟩ 479), (.str ⟨#[61, 50, 56]⟩ 483), (.str ⟨#[61, 50, 57]⟩ 487), (.str ⟨#[61, 50, 65]⟩ 491), (.str ⟨#[61, 50, 66]⟩ 495), (.str ⟨#[61, 50, 67]⟩ 499), (.str ⟨#[61, 50, 68]⟩ 503), (.str ⟨#[61, 50, 69]⟩ 507), (.str ⟨#[61, 50, 70]⟩ 511), (.str ⟨#[61, 51, 48]⟩ 515), (.str ⟨#[61, 51, 49]⟩ 519), (.str ⟨#[61, 51, 50]⟩ 523), (.str ⟨#[61, 51, 51]⟩ 527), (.str ⟨#[61, 51, 52]⟩ 531), (.str ⟨#[61, 51, 53]⟩ 535), (.str ⟨#[61, 51, 54]⟩ 539), (.str ⟨#[61, 51, 55]⟩ 543), (.str ⟨#[61, 51, 56]⟩ 547), (.str ⟨#[61, 51, 57]⟩ 551), (.str ⟨#[61, 51, 65]⟩ 555), (.str ⟨#[61, 51, 66]⟩ 559), (.str ⟨#[61, 51, 67]⟩ 563), (.str ⟨#[61, 51, 68]⟩ 567), (.str ⟨#[61, 51, 69]⟩ 571), (.str ⟨#[61, 51, 70]⟩ 575), (.str ⟨#[61, 52, 48]⟩ 579), (.str ⟨#[61, 52, 49]⟩ 583), (.str ⟨#[61, 52, 50]⟩ 587), (.str ⟨#[61, 52, 51]⟩ 591), (.str ⟨#[61, 52, 52]⟩ 595), (.str ⟨#[61, 52, 53]⟩ 599), (.str ⟨#[61, 52, 54]⟩ 603), (.str ⟨#[61, 52, 55]⟩ 607), (.str ⟨#[61, 52, 56]⟩ 611), (.str ⟨#[61, 52, 57]⟩ 615), (.str ⟨#[61, 52, 65]⟩ 619), (.str ⟨#[61, 52, 66]⟩ 623), (.str ⟨#[61, 52, 67]⟩ 627), (.str ⟨#[61, 52, 68]⟩ 631), (.str ⟨#[61, 52, 69]⟩ 635), (.str ⟨#[61, 52, 70]⟩ 639), (.str ⟨#[61, 53, 48]⟩ 643), (.str ⟨#[61, 53, 49]⟩ 647), (.str ⟨#[61, 53, 50]⟩ 651), (.str ⟨#[61, 53, 51]⟩ 655), (.str ⟨#[61, 53, 52]⟩ 659), (.str ⟨#[61, 53, 53]⟩ 663), (.str ⟨#[61, 53, 54]⟩ 667), (.str ⟨#[61, 53, 55]⟩ 671), (.str ⟨#[61, 53, 56]⟩ 675), (.str ⟨#[61, 53, 57]⟩ 679), (.str ⟨#[61, 53, 65]⟩ 683), (.str ⟨#[61, 53, 66]⟩ 687), (.str ⟨#[61, 53, 67]⟩ 691), (.str ⟨#[61, 53, 68]⟩ 695), (.str ⟨#[61, 53, 69]⟩ 699), (.str ⟨#[61, 53, 70]⟩ 703), (.str ⟨#[61, 54, 48]⟩ 707), (.str ⟨#[61, 54, 49]⟩ 711), (.str ⟨#[61, 54, 50]⟩ 715), (.str ⟨#[61, 54, 51]⟩ 719), (.str ⟨#[61, 54, 52]⟩ 723), (.str ⟨#[61, 54, 53]⟩ 727), (.str ⟨#[61, 54, 54]⟩ 731), (.str ⟨#[61, 54, 55]⟩ 735), (.str ⟨#[61, 54, 56]⟩ 739), (.str ⟨#[61, 54, 57]⟩ 743), (.str ⟨#[61, 54, 65]⟩ 747), (.str ⟨#[61, 54, 66]⟩ 751), (.str ⟨#[61, 54, 67]⟩ 755), (.str ⟨#[61, 54, 68]⟩ 759), (.str ⟨#[61, 54, 69]⟩ 763), (.str ⟨#[61, 54, 70]⟩ 767), (.str ⟨#[61, 55, 48]⟩ 771), (.str ⟨#[61, 55, 49]⟩ 775), (.str ⟨#[61, 55, 50]⟩ 779), (.str ⟨#[61, 55, 51]⟩ 783), (.str ⟨#[61, 55, 52]⟩ 787), (.str ⟨#[61, 55, 53]⟩ 791), (.str ⟨#[61, 55, 54]⟩ 795), (.str ⟨#[61, 55, 55]⟩ 799), (.str ⟨#[61, 55, 56]⟩ 803), (.str ⟨#[61, 55, 57]⟩ 807), (.str ⟨#[61, 55, 65]⟩ 811), (.str ⟨#[61, 55, 66]⟩ 815), (.str ⟨#[61, 55, 67]⟩ 819), (.str ⟨#[61, 55, 68]⟩ 823), (.str ⟨#[61, 55, 69]⟩ 827), (.str ⟨#[61, 55, 70]⟩ 831), (.str ⟨#[61, 56, 48]⟩ 835), (.str ⟨#[61, 56, 49]⟩ 839), (.str ⟨#[61, 56, 50]⟩ 843), (.str ⟨#[61, 56, 51]⟩ 847), (.str ⟨#[61, 56, 52]⟩ 851), (.str ⟨#[61, 56, 53]⟩ 855), (.str ⟨#[61, 56, 54]⟩ 859), (.str ⟨#[61, 56, 55]⟩ 863), (.str ⟨#[61, 56, 56]⟩ 867), (.str ⟨#[61, 56, 57]⟩ 871), (.str ⟨#[61, 56, 65]⟩ 875), (.str ⟨#[61, 56, 66]⟩ 879), (.str ⟨#[61, 56, 67]⟩ 883), (.str ⟨#[61, 56, 68]⟩ 887), (.str ⟨#[61, 56, 69]⟩ 891), (.str ⟨#[61, 56, 70]⟩ 895), (.str ⟨#[61, 57, 48]⟩ 899), (.str ⟨#[61, 57, 49]⟩ 903), (.str ⟨#[61, 57, 50]⟩ 907), (.str ⟨#[61, 57, 51]⟩ 911), (.str ⟨#[61, 57, 52]⟩ 915), (.str ⟨#[61, 57, 53]⟩ 919), (.str ⟨#[61, 57, 54]⟩ 923), (.str ⟨#[61, 57, 55]⟩ 927), (.str ⟨#[61, 57, 56]⟩ 931), (.str ⟨#[61, 57, 57]⟩ 935), (.str ⟨#[61, 57, 65]⟩ 939), (.str ⟨#[61, 57, 66]⟩ 943), (.str ⟨#[61, 57, 67]⟩ 947), (.str ⟨#[61, 57, 68]⟩ 951), (.str ⟨#[61, 57, 69]⟩ 955), (.str ⟨#[61, 57, 70]⟩ 959), (.str ⟨#[61, 65, 48]⟩ 963), (.str ⟨#[61, 65, 49]⟩ 967), (.str ⟨#[61, 65, 50]⟩ 971), (.str ⟨#[61, 65, 51]⟩ 975), (.str ⟨#[61, 65, 52]⟩ 979), (.str ⟨#[61, 65, 53]⟩ 983), (.str ⟨#[61, 65, 54]⟩ 987), (.str ⟨#[61, 65, 55]⟩ 991), (.str ⟨#[61, 65, 56]⟩ 995), (.str ⟨#[61, 65, 57]⟩ 999), (.str ⟨#[61, 65, 65]⟩ 1003), (.str ⟨#[61, 65, 66]⟩ 1007), (.str ⟨#[61, 65, 67]⟩ 1011), (.str ⟨#[61, 65, 68]⟩ 1015), (.str ⟨#[61, 65, 69]⟩ 1019), (.str ⟨#[61, 65, 70]⟩ 1023), (.str ⟨#[61, 66, 48]⟩ 1027), (.str ⟨#[61, 66, 49]⟩ 1031), (.str ⟨#[61, 66, 50]⟩ 1035), (.str ⟨#[61, 66, 51]⟩ 1039), (.str ⟨#[61, 66, 52]⟩ 1043), (.str ⟨#[61, 66, 53]⟩ 1047), (.str ⟨#[61, 66, 54]⟩ 1051), (.str ⟨#[61, 66, 55]⟩ 1055), (.str ⟨#[61, 66, 56]⟩ 1059), (.str ⟨#[61, 66, 57]⟩ 1063), (.str ⟨#[61, 66, 65]⟩ 1067), (.str ⟨#[61, 66, 66]⟩ 1071), (.str ⟨#[61, 66, 67]⟩ 1075), (.str ⟨#[61, 66, 68]⟩ 1079), (.str ⟨#[61, 66, 69]⟩ 1083), (.str ⟨#[61, 66, 70]⟩ 1087), (.str ⟨#[61, 67, 48]⟩ 1091), (.str ⟨#[61, 67, 49]⟩ 1095), (.str ⟨#[61, 67, 50]⟩ 1099), (.str ⟨#[61, 67, 51]⟩ 1103), (.str ⟨#[61, 67, 52]⟩ 1107), (.str ⟨#[61, 67, 53]⟩ 1111), (.str ⟨#[61, 67, 54]⟩ 1115), (.str ⟨#[61, 67, 55]⟩ 1119), (.str ⟨#[61, 67, 56]⟩ 1123), (.str ⟨#[61, 67, 57]⟩ 1127), (.str ⟨#[61, 67, 65]⟩ 1131), (.str ⟨#[61, 67, 66]⟩ 1135), (.str ⟨#[61, 67, 67]⟩ 1139), (.str ⟨#[61, 67, 68]⟩ 1143), (.str ⟨#[61, 67, 69]⟩ 1147), (.str ⟨#[61, 67, 70]⟩ 1151), (.str ⟨#[61, 68, 48]⟩ 1155), (.str ⟨#[61, 68, 49]⟩ 1159), (.str ⟨#[61, 68, 50]⟩ 1163), (.str ⟨#[61, 68, 51]⟩ 1167), (.str ⟨#[61, 68, 52]⟩ 1171), (.str ⟨#[61, 68, 53]⟩ 1175), (.str ⟨#[61, 68, 54]⟩ 1179), (.str ⟨#[61, 68, 55]⟩ 1183), (.str ⟨#[61, 68, 56]⟩ 1187), (.str ⟨#[61, 68, 57]⟩ 1191), (.str ⟨#[61, 68, 65]⟩ 1195), (.str ⟨#[61, 68, 66]⟩ 1199), (.str ⟨#[61, 68, 67]⟩ 1203), (.str ⟨#[61, 68, 68]⟩ 1207), (.str ⟨#[61, 68, 69]⟩ 1211), (.str ⟨#[61, 68, 70]⟩ 1215), (.str ⟨#[61, 69, 48]⟩ 1219), (.str ⟨#[61, 69, 49]⟩ 1223), (.str ⟨#[61, 69, 50]⟩ 1227), (.str ⟨#[61, 69, 51]⟩ 1231), (.str ⟨#[61, 69, 52]⟩ 1235), (.str ⟨#[61, 69, 53]⟩ 1239), (.str ⟨#[61, 69, 54]⟩ 1243), (.str ⟨#[61, 69, 55]⟩ 1247), (.str ⟨#[61, 69, 56]⟩ 1251), (.str ⟨#[61, 69, 57]⟩ 1255), (.str ⟨#[61, 69, 65]⟩ 1259), (.str ⟨#[61, 69, 66]⟩ 1263), (.str ⟨#[61, 69, 67]⟩ 1267), (.str ⟨#[61, 69, 68]⟩ 1271), (.str ⟨#[61, 69, 69]⟩ 1275), (.str ⟨#[61, 69, 70]⟩ 1279), (.str ⟨#[61, 70, 48]⟩ 1283), (.str ⟨#[61, 70, 49]⟩ 1287), (.str ⟨#[61, 70, 50]⟩ 1291), (.str ⟨#[61, 70, 51]⟩ 1295), (.str ⟨#[61, 70, 52]⟩ 1299), (.str ⟨#[61, 70, 53]⟩ 1303), (.str ⟨#[61, 70, 54]⟩ 1307), (.str ⟨#[61, 70, 55]⟩ 1311), (.str ⟨#[61, 70, 56]⟩ 1315), (.str ⟨#[61, 70, 57]⟩ 1319), (.str ⟨#[61, 70, 65]⟩ 1323), (.str ⟨#[61, 70, 66]⟩ 1327), (.str ⟨#[61, 70, 67]⟩ 1331), (.str ⟨#[61, 70, 68]⟩ 1335), (.str ⟨#[61, 70, 69]⟩ 1339), (.str ⟨#[61, 70, 70]⟩ 1343)] 256), #[]⟩
noncomputable def o0_35 (p : Params) : Obj := ⟨(.type "tuple"), none, (.seq #[(.int (14) 0), (.int (8) 0), (.int (1) 0), (.int (3) 0), (.int (3) 0), (.int (1) 0), (.int (1) 0), (.int (61) 0), (.int (0) 0), (.int (16) 0), (.int (61) 0), (.int (24) 0), (.int (16) 0), (.int (2) 0), (.int (2) 0), (.int (13) 0), (.int (11) 0), (.int (9) 0), (.int (0) 0), (.int (67043328) 0), (.int (126) 0), (.int (126) 0), (.int (0) 0), (.int (0) 0), (.int (0) 0), (.int (0) 0), (.int (0) 0), (.int (1) 0), (.int (1) 0)] 0), #[]⟩
noncomputable def o0_33 (p : Params) : Obj := ⟨(.type "dict"), none, (.dict #[] 0), #[]⟩
noncomputable def o1_41 (p : Params) : Obj := ⟨(.type "tuple"), none, (.seq #[] 0), #[]⟩
noncomputable def o1_37 (p : Params) : Obj := ⟨(.type "range"), none, (.fields #[(.int (0) 318), (.int (256) 317), (.int (1) 319)]), #[]⟩
noncomputable def o0_32 (p : Params) : Obj := ⟨(.type "list"), none, (.seq #[(.int (14) 285), (.int (8) 286), (.int (1) 287), (.int (3) 288), (.int (3) 289), (.int (1) 290), (.int (1) 291), (.int (61) 292), (.int (0) 293), (.int (16) 294), (.int (61) 295), (.int (24) 296), (.int (16) 297), (.int (2) 298), (.int (2) 299), (.int (13) 300), (.int (11) 301), (.int (9) 302), (.int (0) 303), (.int (67043328) 304), (.int (126) 305), (.int (126) 306), (.int (0) 307), (.int (0) 308), (.int (0) 309), (.int (0) 310), (.int (0) 311), (.int (1) 312), (.int (1) 313)] 0), #[]⟩
noncomputable def o1_40 (p : Params) : Obj := ⟨(.type "dict"), none, (.dict #[] 2), #[]⟩
noncomputable def o0_36 (p : Params) : Obj := ⟨(.type "re.Pattern"), none, (.fields #[(.str ⟨#[61, 91, 97, 45, 102, 65, 45, 70, 48, 45, 57, 93, 123, 50, 125]⟩ 283), (.int (256) 315), (.int (0) 0), .none, .none, (.ref 35), (.int (0) 0)]), #[]⟩
noncomputable def o0_34 (p : Params) : Obj := ⟨(.type "tuple"), none, (.seq #[.none] 0), #[]⟩
noncomputable def o1_42 (p : Params) : Obj := ⟨(.type "StopIteration"), none, (.fields #[(.ref 41), .none, .none, .none, (.bool false), .none]), #[]⟩
noncomputable def o1_38 (p : Params) : Obj := ⟨(.type "range_iterator"), none, (.fields #[(.int (256) 0), (.int (0) 0), (.int (1) 0)]), #[]⟩
noncomputable def t1 (p : Params) : BT := (.node (boot_o_0 p) (.node (oS_1 p) (.node (o1_3 p) (.node (boot_o_7 p) (.node (oS_15 p) (.node (oP_31 p) .nil .nil) .nil) (.node (oS_23 p) (.node (o1_39 p) .nil .nil) .nil)) (.node (oS_11 p) (.node (oE_19 p) (.node (o0_35 p) .nil .nil) .nil) (.node (oS_27 p) .nil .nil))) (.node (boot_o_5 p) (.node (boot_o_9 p) (.node (oS_17 p) (.node (o0_33 p) .nil .nil) .nil) (.node (oS_25 p) (.node (o1_41 p) .nil .nil) .nil)) (.node (oS_13 p) (.node (oS_21 p) (.node (o1_37 p) .nil .nil) .nil) (.node (oP_29 p) .nil .nil)))) (.node (oS_2 p) (.node (boot_o_4 p) (.node (boot_o_8 p) (.node (oS_16 p) (.node (o0_32 p) .nil .nil) .nil) (.node (oS_24 p) (.node (o1_40 p) .nil .nil) .nil)) (.node (oS_12 p) (.node (oS_20 p) (.node (o0_36 p) .nil .nil) .nil) (.node (oP_28 p) .nil .nil))) (.node (boot_o_6 p) (.node (boot_o_10 p) (.node (oS_18 p) (.node (o0_34 p) .nil .nil) .nil) (.node (oS_26 p) (.node (o1_42 p) .nil .nil) .nil)) (.node (oS_14 p) (.node (oS_22 p) (.node (o1_38 p) .nil .nil) .nil) (.node (oP_30 p) .nil .nil)))))
noncomputable def o9_3 (p : Params) : Obj := ⟨(.type "dict"), none, (.dict #[⟨(PyData.keyHash p ⟨#[95, 95, 110, 97, 109, 101, 95, 95]⟩), (.str ⟨#[95, 95, 110, 97, 109, 101, 95, 95]⟩ 165), (.str ⟨#[99, 112, 121, 51, 49, 51, 46, 101, 109, 97, 105, 108, 46, 113, 117, 111, 112, 114, 105, 109, 105, 109, 101]⟩ 1355)⟩, ⟨(PyData.keyHash p ⟨#[95, 95, 100, 111, 99, 95, 95]⟩), (.str ⟨#[95, 95, 100, 111, 99, 95, 95]⟩ 166), .none⟩, ⟨(PyData.keyHash p ⟨#[95, 95, 112, 97, 99, 107, 97, 103, 101, 95, 95]⟩), (.str ⟨#[95, 95, 112, 97, 99, 107, 97, 103, 101, 95, 95]⟩ 167), .none⟩, ⟨(PyData.keyHash p ⟨#[95, 95, 108, 111, 97, 100, 101, 114, 95, 95]⟩), (.str ⟨#[95, 95, 108, 111, 97, 100, 101, 114, 95, 95]⟩ 168), (.builtin (String.ofList ['_', '_', 'm', 'a', 'i', 'n', '_', '_', '.', '_', '_', 'l', 'o', 'a', 'd', 'e', 'r', '_', '_', '#', 'o', 'p', 'a', 'q', 'u', 'e']))⟩, ⟨(PyData.keyHash p ⟨#[95, 95, 115, 112, 101, 99, 95, 95]⟩), (.str ⟨#[95, 95, 115, 112, 101, 99, 95, 95]⟩ 169), .none⟩, ⟨(PyData.keyHash p ⟨#[95, 95, 97, 110, 110, 111, 116, 97, 116, 105, 111, 110, 115, 95, 95]⟩), (.str ⟨#[95, 95, 97, 110, 110, 111, 116, 97, 116, 105, 111, 110, 115, 95, 95]⟩ 170), (.ref 6)⟩, ⟨(PyData.keyHash p ⟨#[95, 95, 98, 117, 105, 108, 116, 105, 110, 115, 95, 95]⟩), (.str ⟨#[95, 95, 98, 117, 105, 108, 116, 105, 110, 115, 95, 95]⟩ 171), (.ref 4)⟩, ⟨(PyData.keyHash p ⟨#[95, 95, 102, 105, 108, 101, 95, 95]⟩), (.str ⟨#[95, 95, 102, 105, 108, 101, 95, 95]⟩ 173), (.str ⟨#[47, 99, 108, 97, 105, 109, 47, 99, 117, 116, 46, 112, 121]⟩ 172)⟩, ⟨(PyData.keyHash p ⟨#[95, 95, 99, 97, 99, 104, 101, 100, 95, 95]⟩), (.str ⟨#[95, 95, 99, 97, 99, 104, 101, 100, 95, 95]⟩ 174), .none⟩, ⟨(PyData.keyHash p ⟨#[95, 115, 114, 101]⟩), (.str ⟨#[95, 115, 114, 101]⟩ 275), (.ref 12)⟩, ⟨(PyData.keyHash p ⟨#[95, 116, 119, 105, 110, 95, 114, 101, 95, 49]⟩), (.str ⟨#[95, 116, 119, 105, 110, 95, 114, 101, 95, 49]⟩ 316), (.ref 36)⟩, ⟨(PyData.keyHash p ⟨#[95, 81, 85, 79, 80, 82, 73, 95, 77, 65, 80]⟩), (.str ⟨#[95, 81, 85, 79, 80, 82, 73, 95, 77, 65, 80]⟩ 1344), (.ref 39)⟩, ⟨(PyData.keyHash p ⟨#[95, 81, 85, 79, 80, 82, 73, 95, 72, 69, 65, 68, 69, 82, 95, 77, 65, 80]⟩), (.str ⟨#[95, 81, 85, 79, 80, 82, 73, 95, 72, 69, 65, 68, 69, 82, 95, 77, 65, 80]⟩ 1345), (.ref 44)⟩, ⟨(PyData.keyHash p ⟨#[95, 81, 85, 79, 80, 82, 73, 95, 66, 79, 68, 89, 95, 77, 65, 80]⟩), (.str ⟨#[95, 81, 85, 79, 80, 82, 73, 95, 66, 79, 68, 89, 95, 77, 65, 80]⟩ 1346), (.ref 46)⟩, ⟨(PyData.keyHash p ⟨#[97, 115, 99, 105, 105, 95, 108, 111, 119, 101, 114, 99, 97, 115, 101]⟩), (.str ⟨#[97, 115, 99, 105, 105, 95, 108, 111, 119, 101, 114, 99, 97, 115, 101]⟩ 1348), (.str ⟨#[97, 98, 99, 100, 101, 102, 103, 104, 105, 106, 107, 108, 109, 110, 111, 112, 113, 114, 115, 116, 117, 118, 119, 120, 121, 122]⟩ 1347)⟩, ⟨(PyData.keyHash p ⟨#[97, 115, 99, 105, 105, 95, 117, 112, 112, 101, 114, 99, 97, 115, 101]⟩), (.str ⟨#[97, 115, 99, 105, 105, 95, 117, 112, 112, 101, 114, 99, 97, 115, 101]⟩ 1350), (.str ⟨#[65, 66, 67, 68, 69, 70, 71, 72, 73, 74, 75, 76, 77, 78, 79, 80, 81, 82, 83, 84, 85, 86, 87, 88, 89, 90]⟩ 1349)⟩, ⟨(PyData.keyHash p ⟨#[97, 115, 99, 105, 105, 95, 108, 101, 116, 116, 101, 114, 115]⟩), (.str ⟨#[97, 115, 99, 105, 105, 95, 108, 101, 116, 116, 101, 114, 115]⟩ 1352), (.str ⟨#[97, 98, 99, 100, 101, 102, 103, 104, 105, 106, 107, 108, 109, 110, 111, 112, 113, 114, 115, 116, 117, 118, 119, 120, 121, 122, 65, 66, 67, 68, 69, 70, 71, 72, 73, 74, 75, 76, 77, 78, 79, 80, 81, 82, 83, 84, 85, 86, 87, 88, 89, 90]⟩ 1351)⟩, ⟨(PyData.keyHash p ⟨#[100, 105, 103, 105, 116, 115]⟩), (.str ⟨#[100, 105, 103, 105, 116, 115]⟩ 1354), (.str ⟨#[48, 49, 50, 51, 52, 53, 54, 55, 56, 57]⟩ 1353)⟩, ⟨(PyData.keyHash p ⟨#[99]⟩), (.str ⟨#[99]⟩ 1365), (.int (57) 1562)⟩] 19), #[]⟩
noncomputable def o9_47 (p : Params) : Obj := ⟨(.type "bytes_iterator"), none, (.fields #[.none, (.int (67) 0)]), #[]⟩
noncomputable def o2_43 (p : Params) : Obj := ⟨(.type "slice"), none, (.fields #[.none, .none, .none]), #[]⟩
noncomputable def o9_49 (p : Params) : Obj := ⟨(.type "StopIteration"), none, (.fields #[(.ref 48), .none, .none, .none, (.bool false), .none]), #[]⟩
noncomputable def o3_45 (p : Params) : Obj := ⟨(.type "slice"), none, (.fields #[.none, .none, .none]), #[]⟩
noncomputable def o9_48 (p : Params) : Obj := ⟨(.type "tuple"), none, (.seq #[] 0), #[]⟩
noncomputable def o9_44 (p : Params) : Obj := ⟨(.type "list"), none, (.seq #[(.str ⟨#[61, 48, 48]⟩ 323), (.str ⟨#[61, 48, 49]⟩ 327), (.str ⟨#[61, 48, 50]⟩ 331), (.str ⟨#[61, 48, 51]⟩ 335), (.str ⟨#[61, 48, 52]⟩ 339), (.str ⟨#[61, 48, 53]⟩ 343), (.str ⟨#[61, 48, 54]⟩ 347), (.str ⟨#[61, 48, 55]⟩ 351), (.str ⟨#[61, 48, 56]⟩ 355), (.str ⟨#[61, 48, 57]⟩ 359), (.str ⟨#[61, 48, 65]⟩ 363), (.str ⟨#[61, 48, 66]⟩ 367), (.str ⟨#[61, 48, 67]⟩ 371), (.str ⟨#[61, 48, 68]⟩ 375), (.str ⟨#[61, 48, 69]⟩ 379), (.str ⟨#[61, 48, 70]⟩ 383), (.str ⟨#[61, 49, 48]⟩ 387), (.str ⟨#[61, 49, 49]⟩ 391), (.str ⟨#[61, 49, 50]⟩ 395), (.str ⟨#[61, 49, 51]⟩ 399), (.str ⟨#[61, 49, 52]⟩ 403), (.str ⟨#[61, 49, 53]⟩ 407), (.str ⟨#[61, 49, 54]⟩ 411), (.str ⟨#[61, 49, 55]⟩ 415), (.str ⟨#[61, 49, 56]⟩ 419), (.str ⟨#[61, 49, 57]⟩ 423), (.str ⟨#[61, 49, 65]⟩ 427), (.str ⟨#[61, 49, 66]⟩ 431), (.str ⟨#[61, 49, 67]⟩ 435), (.str ⟨#[61, 49, 68]⟩ 439), (.str ⟨#[61, 49, 69]⟩ 443), (.str ⟨#[61, 49, 70]⟩ 447), (.str ⟨#[61, 50, 48]⟩ 451), (.str ⟨#[33]⟩ 1369), (.str ⟨#[61, 50, 50]⟩ 459), (.str ⟨#[61, 50, 51]⟩ 463), (.str ⟨#[61, 50, 52]⟩ 467), (.str ⟨#[61, 50, 53]⟩ 471), (.str ⟨#[61, 50, 54]⟩ 475), (.str ⟨#[61, 50, 55]⟩ 479), (.str ⟨#[61, 50, 56]⟩ 483), (.str ⟨#[61, 50, 57]⟩ 487), (.str ⟨#[42]⟩ 1372), (.str ⟨#[43]⟩ 1375), (.str ⟨#[61, 50, 67]⟩ 499), (.str ⟨#[45]⟩ 1366), (.str ⟨#[61, 50, 69]⟩ 507), (.str ⟨#[47]⟩ 1378), (.str ⟨#[48]⟩ 1537), (.str ⟨#[49]⟩ 1540), (.str ⟨#[50]⟩ 1543), (.str ⟨#[51]⟩ 1546), (.str ⟨#[52]⟩ 1549), (.str ⟨#[53]⟩ 1552), (.str ⟨#[54]⟩ 1555), (.str ⟨#[55]⟩ 1558), (.str ⟨#[56]⟩ 1561), (.str ⟨#[57]⟩ 1564), (.str ⟨#[61, 51, 65]⟩ 555), (.str ⟨#[61, 51, 66]⟩ 559), (.str ⟨#[61, 51, 67]⟩ 563), (.str ⟨#[61, 51, 68]⟩ 567), (.str ⟨#[61, 51, 69]⟩ 571), (.str ⟨#[61, 51, 70]⟩ 575), (.str ⟨#[61, 52, 48]⟩ 579), (.str ⟨#[65]⟩ 1459), (.str ⟨#[66]⟩ 1462), (.str ⟨#[67]⟩ 1465), (.str ⟨#[68]⟩ 1468), (.str ⟨#[69]⟩ 1471), (.str ⟨#[70]⟩ 1474), (.str ⟨#[71]⟩ 1477), (.str ⟨#[72]⟩ 1480), (.str ⟨#[73]⟩ 1483), (.str ⟨#[74]⟩ 1486), (.str ⟨#[75]⟩ 1489), (.str ⟨#[76]⟩ 1492), (.str ⟨#[77]⟩ 1495), (.str ⟨#[78]⟩ 1498), (.str ⟨#[79]⟩ 1501), (.str ⟨#[80]⟩ 1504), (.str ⟨#[81]⟩ 1507), (.str ⟨#[82]⟩ 1510), (.str ⟨#[83]⟩ 1513), (.str ⟨#[84]⟩ 1516), (.str ⟨#[85]⟩ 1519), (.str ⟨#[86]⟩ 1522), (.str ⟨#[87]⟩ 1525), (.str ⟨#[88]⟩ 1528), (.str ⟨#[89]⟩ 1531), (.str ⟨#[90]⟩ 1534), (.str ⟨#[61, 53, 66]⟩ 687), (.str ⟨#[61, 53, 67]⟩ 691), (.str ⟨#[61, 53, 68]⟩ 695), (.str ⟨#[61, 53, 69]⟩ 699), (.str ⟨#[61, 53, 70]⟩ 703), (.str ⟨#[61, 54, 48]⟩ 707), (.str ⟨#[97]⟩ 1381), (.str ⟨#[98]⟩ 1384), (.str ⟨#[99]⟩ 1387), (.str ⟨#[100]⟩ 1390), (.str ⟨#[101]⟩ 1393), (.str ⟨#[102]⟩ 1396), (.str ⟨#[103]⟩ 1399), (.str ⟨#[104]⟩ 1402), (.str ⟨#[105]⟩ 1405), (.str ⟨#[106]⟩ 1408), (.str ⟨#[107]⟩ 1411), (.str ⟨#[108]⟩ 1414), (.str ⟨#[109]⟩ 1417), (.str ⟨#[110]⟩ 1420), (.str ⟨#[111]⟩ 1423), (.str ⟨#[112]⟩ 1426), (.str ⟨#[113]⟩ 1429), (.str ⟨#[114]⟩ 1432), (.str ⟨#[115]⟩ 1435), (.str ⟨#[116]⟩ 1438), (.str ⟨#[117]⟩ 1441), (.str ⟨#[118]⟩ 1444), (.str ⟨#[119]⟩ 1447), (.str ⟨#[120]⟩ 1450), (.str ⟨#[121]⟩ 1453), (.str ⟨#[122]⟩ 1456), (.str ⟨#[61, 55, 66]⟩ 815), (.str ⟨#[61, 55, 67]⟩ 819), (.str ⟨#[61, 55, 68]⟩ 823), (.str ⟨#[61, 55, 69]⟩ 827), (.str ⟨#[61, 55, 70]⟩ 831), (.str ⟨#[61, 56, 48]⟩ 835), (.str ⟨#[61, 56, 49]⟩ 839), (.str ⟨#[61, 56, 50]⟩ 843), (.str ⟨#[61, 56, 51]⟩ 847), (.str ⟨#[61, 56, 52]⟩ 851), (.str ⟨#[61, 56, 53]⟩ 855), (.str ⟨#[61, 56, 54]⟩ 859), (.str ⟨#[61, 56, 55]⟩ 863), (.str ⟨#[61, 56, 56]⟩ 867), (.str ⟨#[61, 56, 57]⟩ 871), (.str ⟨#[61, 56, 65]⟩ 875), (.str ⟨#[61, 56, 66]⟩ 879), (.str ⟨#[61, 56, 67]⟩ 883), (.str ⟨#[61, 56, 68]⟩ 887), (.str ⟨#[61, 56, 69]⟩ 891), (.str ⟨#[61, 56, 70]⟩ 895), (.str ⟨#[61, 57, 48]⟩ 899), (.str ⟨#[61, 57, 49]⟩ 903), (.str ⟨#[61, 57, 50]⟩ 907), (.str ⟨#[61, 57, 51]⟩ 911), (.str ⟨#[61, 57, 52]⟩ 915), (.str ⟨#[61, 57, 53]⟩ 919), (.str ⟨#[61, 57, 54]⟩ 923), (.str ⟨#[61, 57, 55]⟩ 927), (.str ⟨#[61, 57, 56]⟩ 931), (.str ⟨#[61, 57, 57]⟩ 935), (.str ⟨#[61, 57, 65]⟩ 939), (.str ⟨#[61, 57, 66]⟩ 943), (.str ⟨#[61, 57, 67]⟩ 947), (.str ⟨#[61, 57, 68]⟩ 951), (.str ⟨#[61, 57, 69]⟩ 955), (.str ⟨#[61, 57, 70]⟩ 959), (.str ⟨#[61, 65, 48]⟩ 963), (.str ⟨#[61, 65, 49]⟩ 967), (.str ⟨#[61, 65, 50]⟩ 971), (.str ⟨#[61, 65, 51]⟩ 975), (.str ⟨#[61, 65, 52]⟩ 979), (.str ⟨#[61, 65, 53]⟩ 983), (.str ⟨#[61, 65, 54]⟩ 987), (.str ⟨#[61, 65, 55]⟩ 991), (.str ⟨#[61, 65, 56]⟩ 995), (.str ⟨#[61, 65, 57]⟩ 999), (.str ⟨#[61, 65, 65]⟩ 1003), (.str ⟨#[61, 65, 66]⟩ 1007), (.str ⟨#[61, 65, 67]⟩ 1011), (.str ⟨#[61, 65, 68]⟩ 1015), (.str ⟨#[61, 65, 69]⟩ 1019), (.str ⟨#[61, 65, 70]⟩ 1023), (.str ⟨#[61, 66, 48]⟩ 1027), (.str ⟨#[61, 66, 49]⟩ 1031), (.str ⟨#[61, 66, 50]⟩ 1035), (.str ⟨#[61, 66, 51]⟩ 1039), (.str ⟨#[61, 66, 52]⟩ 1043), (.str ⟨#[61, 66, 53]⟩ 1047), (.str ⟨#[61, 66, 54]⟩ 1051), (.str ⟨#[61, 66, 55]⟩ 1055), (.str ⟨#[61, 66, 56]⟩ 1059), (.str ⟨#[61, 66, 57]⟩ 1063), (.str ⟨#[61, 66, 65]⟩ 1067), (.str ⟨#[61, 66, 66]⟩ 1071), (.str ⟨#[61, 66, 67]⟩ 1075), (.str ⟨#[61, 66, 68]⟩ 1079), (.str ⟨#[61, 66, 69]⟩ 1083), (.str ⟨#[61, 66, 70]⟩ 1087), (.str ⟨#[61, 67, 48]⟩ 1091), (.str ⟨#[61, 67, 49]⟩ 1095), (.str ⟨#[61, 67, 50]⟩ 1099), (.str ⟨#[61, 67, 51]⟩ 1103), (.str ⟨#[61, 67, 52]⟩ 1107), (.str ⟨#[61, 67, 53]⟩ 1111), (.str ⟨#[61, 67, 54]⟩ 1115), (.str ⟨#[61, 67, 55]⟩ 1119), (.str ⟨#[61, 67, 56]⟩ 1123), (.str ⟨#[61, 67, 57]⟩ 1127), (.str ⟨#[61, 67, 65]⟩ 1131), (.str ⟨#[61, 67, 66]⟩ 1135), (.str ⟨#[61, 67, 67]⟩ 1139), (.str ⟨#[61, 67, 68]⟩ 1143), (.str ⟨#[61, 67, 69]⟩ 1147), (.str ⟨#[61, 67, 70]⟩ 1151), (.str ⟨#[61, 68, 48]⟩ 1155), (.str ⟨#[61, 68, 49]⟩ 1159), (.str ⟨#[61, 68, 50]⟩ 1163), (.str ⟨#[61, 68, 51]⟩ 1167), (.str ⟨#[61, 68, 52]⟩ 1171), (.str ⟨#[61, 68, 53]⟩ 1175), (.str ⟨#[61, 68, 54]⟩ 1179), (.str ⟨#[61, 68, 55]⟩ 1183), (.str ⟨#[61, 68, 56]⟩ 1187), (.str ⟨#[61, 68, 57]⟩ 1191), (.str ⟨#[61, 68, 65]⟩ 1195), (.str ⟨#[61, 68, 66]⟩ 1199), (.str ⟨#[61, 68, 67]⟩ 1203), (.str ⟨#[61, 68, 68]⟩ 1207), (.str ⟨#[61, 68, 69]⟩ 1211), (.str ⟨#[61, 68, 70]⟩ 1215), (.str ⟨#[61, 69, 48]⟩ 1219), (.str ⟨#[61, 69, 49]⟩ 1223), (.str ⟨#[61, 69, 50]⟩ 1227), (.str ⟨#[61, 69, 51]⟩ 1231), (.str ⟨#[61, 69, 52]⟩ 1235), (.str ⟨#[61, 69, 53]⟩ 1239), (.str ⟨#[61, 69, 54]⟩ 1243), (.str ⟨#[61, 69, 55]⟩ 1247), (.str ⟨#[61, 69, 56]⟩ 1251), (.str ⟨#[61, 69, 57]⟩ 1255), (.str ⟨#[61, 69, 65]⟩ 1259), (.str ⟨#[61, 69, 66]⟩ 1263), (.str ⟨#[61, 69, 67]⟩ 1267), (.str ⟨#[61, 69, 68]⟩ 1271), (.str ⟨#[61, 69, 69]⟩ 1275), (.str ⟨#[61, 69, 70]⟩ 1279), (.str ⟨#[61, 70, 48]⟩ 1283), (.str ⟨#[61, 70, 49]⟩ 1287), (.str ⟨#[61, 70, 50]⟩ 1291), (.str ⟨#[61, 70, 51]⟩ 1295), (.str ⟨#[61, 70, 52]⟩ 1299), (.str ⟨#[61, 70, 53]⟩ 1303), (.str ⟨#[61, 70, 54]⟩ 1307), (.str ⟨#[61, 70, 55]⟩ 1311), (.str ⟨#[61, 70, 56]⟩ 1315), (.str ⟨#[61, 70, 57]⟩ 1319), (.str ⟨#[61, 70, 65]⟩ 1323), (.str ⟨#[61, 70, 66]⟩ 1327), (.str ⟨#[61, 70, 67]⟩ 1331), (.str ⟨#[61, 70, 68]⟩ 1335), (.str ⟨#[61, 70, 69]⟩ 1339), (.str ⟨#[61, 70, 70]⟩ 1343)] 0), #[]⟩
noncomputable def o3_46 (p : Params) : Obj := ⟨(.type "list"), none, (.seq #[(.str ⟨#[61, 48, 48]⟩ 323), (.str ⟨#[61, 48, 49]⟩ 327), (.str ⟨#[61, 48, 50]⟩ 331), (.str ⟨#[61, 48, 51]⟩ 335), (.str ⟨#[61, 48, 52]⟩ 339), (.str ⟨#[61, 48, 53]⟩ 343), (.str ⟨#[61, 48, 54]⟩ 347), (.str ⟨#[61, 48, 55]⟩ 351), (.str ⟨#[61, 48, 56]⟩ 355), (.str ⟨#[61, 48, 57]⟩ 359), (.str ⟨#[61, 48, 65]⟩ 363), (.str ⟨#[61, 48, 66]⟩ 367), (.str ⟨#[61, 48, 67]⟩ 371), (.str ⟨#[61, 48, 68]⟩ 375), (.str ⟨#[61, 48, 69]⟩ 379), (.str ⟨#[61, 48, 70]⟩ 383), (.str ⟨#[61, 49, 48]⟩ 387), (.str ⟨#[61, 49, 49]⟩ 391), (.str ⟨#[61, 49, 50]⟩ 395), (.str ⟨#[61, 49, 51]⟩ 399), (.str ⟨#[61, 49, 52]⟩ 403), (.str ⟨#[61, 49, 53]⟩ 407), (.str ⟨#[61, 49, 54]⟩ 411), (.str ⟨#[61, 49, 55]⟩ 415), (.str ⟨#[61, 49, 56]⟩ 419), (.str ⟨#[61, 49, 57]⟩ 423), (.str ⟨#[61, 49, 65]⟩ 427), (.str ⟨#[61, 49, 66]⟩ 431), (.str ⟨#[61, 49, 67]⟩ 435), (.str ⟨#[61, 49, 68]⟩ 439), (.str ⟨#[61, 49, 69]⟩ 443), (.str ⟨#[61, 49, 70]⟩ 447), (.str ⟨#[61, 50, 48]⟩ 451), (.str ⟨#[61, 50, 49]⟩ 455), (.str ⟨#[61, 50, 50]⟩ 459), (.str ⟨#[61, 50, 51]⟩ 463), (.str ⟨#[61, 50, 52]⟩ 467), (.str ⟨#[61, 50, 53]⟩ 471), (.str ⟨#[61, 50, 54]⟩ 475), (.str ⟨#[61, 50, 55]⟩ 479), (.str ⟨#[61, 50, 56]⟩ 483), (.str ⟨#[61, 50, 57]⟩ 487), (.str ⟨#[61, 50, 65]⟩ 491), (.str ⟨#[61, 50, 66]⟩ 495), (.str ⟨#[61, 50, 67]⟩ 499), (.str ⟨#[61, 50, 68]⟩ 503), (.str ⟨#[61, 50, 69]⟩ 507), (.str ⟨#[61, 50, 70]⟩ 511), (.str ⟨#[61, 51, 48]⟩ 515), (.str ⟨#[61, 51, 49]⟩ 519), (.str ⟨#[61, 51, 50]⟩ 523), (.str ⟨#[61, 51, 51]⟩ 527), (.str ⟨#[61, 51, 52]⟩ 531), (.str ⟨#[61, 51, 53]⟩ 535), (.str ⟨#[61, 51, 54]⟩ 539), (.str ⟨#[61, 51, 55]⟩ 543), (.str ⟨#[61, 51, 56]⟩ 547), (.str ⟨#[61, 51, 57]⟩ 551), (.str ⟨#[61, 51, 65]⟩ 555), (.str ⟨#[61, 51, 66]⟩ 559), (.str ⟨#[61, 51, 67]⟩ 563), (.str ⟨#[61, 51, 68]⟩ 567), (.str ⟨#[61, 51, 69]⟩ 571), (.str ⟨#[61, 51, 70]⟩ 575), (.str ⟨#[61, 52, 48]⟩ 579), (.str ⟨#[61, 52, 49]⟩ 583), (.str ⟨#[61, 52, 50]⟩ 587), (.str ⟨#[61, 52, 51]⟩ 591), (.str ⟨#[61, 52, 52]⟩ 595), (.str ⟨#[61, 52, 53]⟩ 599), (.str ⟨#[61, 52, 54]⟩ 603), (.str ⟨#[61, 52, 55]⟩ 607), (.str ⟨#[61, 52, 56]⟩ 611), (.str ⟨#[61, 52, 57]⟩ 615), (.str ⟨#[61, 52, 65]⟩ 619), (.str ⟨#[61, 52, 66]⟩ 623), (.str ⟨#[61, 52, 67]⟩ 627), (.str ⟨#[61, 52, 68]⟩ 631), (.str ⟨#[61, 52, 69]⟩ 635), (.str ⟨#[61, 52, 70]⟩ 639), (.str ⟨#[61, 53, 48]⟩ 643), (.str ⟨#[61, 53, 49]⟩ 647), (.str ⟨#[61, 53, 50]⟩ 651), (.str ⟨#[61, 53, 51]⟩ 655), (.str ⟨#[61, 53, 52]⟩ 659), (.str ⟨#[61, 53, 53]⟩ 663), (.str ⟨#[61, 53, 54]⟩ 667), (.str ⟨#[61, 53, 55]⟩ 671), (.str ⟨#[61, 53, 56]⟩ 675), (.str ⟨#[61, 53, 57]⟩ 679), (.str ⟨#[61, 53, 65]⟩ 683), (.str ⟨#[61, 53, 66]⟩ 687), (.str ⟨#[61, 53, 67]⟩ 691), (.str ⟨#[61, 53, 68]⟩ 695), (.str ⟨#[61, 53, 69]⟩ 699), (.str ⟨#[61, 53, 70]⟩ 703), (.str ⟨#[61, 54, 48]⟩ 707), (.str ⟨#[61, 54, 49]⟩ 711), (.str ⟨#[61, 54, 50]⟩ 715), (.str ⟨#[61, 54, 51]⟩ 719), (.str ⟨#[61, 54, 52]⟩ 723), (.str ⟨#[61, 54, 53]⟩ 727), (.str ⟨#[61, 54, 54]⟩ 731), (.str ⟨#[61, 54, 55]⟩ 735), (.str ⟨#[61, 54, 56]⟩ 739), (.str ⟨#[61, 54, 57]⟩ 743), (.str ⟨#[61, 54, 65]⟩ 747), (.str ⟨#[61, 54, 66]⟩ 751), (.str ⟨#[61, 54, 67]⟩ 755), (.str ⟨#[61, 54, 68]⟩ 759), (.str ⟨#[61, 54, 69]⟩ 763), (.str ⟨#[61, 54, 70]⟩ 767), (.str ⟨#[61, 55, 48]⟩ 771), (.str ⟨#[61, 55, 49]⟩ 775), (.str ⟨#[61, 55, 50]⟩ 779), (.str ⟨#[61, 55, 51]⟩ 783), (.str ⟨#[61, 55, 52]⟩ 787), (.str ⟨#[61, 55, 53]⟩ 791), (.str ⟨#[61, 55, 54]⟩ 795), (.str ⟨#[61, 55, 55]⟩ 799), (.str ⟨#[61, 55, 56]⟩ 803), (.str ⟨#[61, 55, 57]⟩ 807), (.str ⟨#[61, 55, 65]⟩ 811), (.str ⟨#[61, 55, 66]⟩ 815), (.str ⟨#[61, 55, 67]⟩ 819), (.str ⟨#[61, 55, 68]⟩ 823), (.str ⟨#[61, 55, 69]⟩ 827), (.str ⟨#[61, 55, 70]⟩ 831), (.str ⟨#[61, 56, 48]⟩ 835), (.str ⟨#[61, 56, 49]⟩ 839), (.str ⟨#[61, 56, 50]⟩ 843), (.str ⟨#[61, 56, 51]⟩ 847), (.str ⟨#[61, 56, 52]⟩ 851), (.str ⟨#[61, 56, 53]⟩ 855), (.str ⟨#[61, 56, 54]⟩ 859), (.str ⟨#[61, 56, 55]⟩ 863), (.str ⟨#[61, 56, 56]⟩ 867), (.str ⟨#[61, 56, 57]⟩ 871), (.str ⟨#[61, 56, 65]⟩ 875), (.str ⟨#[61, 56, 66]⟩ 879), (.str ⟨#[61, 56, 67]⟩ 883), (.str ⟨#[61, 56, 68]⟩ 887), (.str ⟨#[61, 56, 69]⟩ 891), (.str ⟨#[61, 56, 70]⟩ 895), (.str ⟨#[61, 57, 48]⟩ 899), (.str ⟨#[61, 57, 49]⟩ 903), (.str ⟨#[61, 57, 50]⟩ 907), (.str ⟨#[61, 57, 51]⟩ 911), (.str ⟨#[61, 57, 52]⟩ 915), (.str ⟨#[61, 57, 53]⟩ 919), (.str ⟨#[61, 57, 54]⟩ 923), (.str ⟨#[61, 57, 55]⟩ 927), (.str ⟨#[61, 57, 56]⟩ 931), (.str ⟨#[61, 57, 57]⟩ 935), (.str ⟨#[61, 57, 65]⟩ 939), (.str ⟨#[61, 57, 66]⟩ 943), (.str ⟨#[61, 57, 67]⟩ 947), (.str ⟨#[61, 57, 68]⟩ 951), (.str ⟨#[61, 57, 69]⟩ 955), (.str ⟨#[61, 57, 70]⟩ 959), (.str ⟨#[61, 65, 48]⟩ 963), (.str ⟨#[61, 65, 49]⟩ 967), (.str ⟨#[61, 65, 50]⟩ 971), (.str ⟨#[61, 65, 51]⟩ 975), (.str ⟨#[61, 65, 52]⟩ 979), (.str ⟨#[61, 65, 53]⟩ 983), (.str ⟨#[61, 65, 54]⟩ 987), (.str ⟨#[61, 65, 55]⟩ 991), (.str ⟨#[61, 65, 56]⟩ 995), (.str ⟨#[61, 65, 57]⟩ 999), (.str ⟨#[61, 65, 65]⟩ 1003), (.str ⟨#[61, 65, 66]⟩ 1007), (.str ⟨#[61, 65, 67]⟩ 1011), (.str ⟨#[61, 65, 68]⟩ 1015), (.str ⟨#[61, 65, 69]⟩ 1019), (.str ⟨#[61, 65, 70]⟩ 1023), (.str ⟨#[61, 66, 48]⟩ 1027), (.str ⟨#[61, 66, 49]⟩ 1031), (.str ⟨#[61, 66, 50]⟩ 1035), (.str ⟨#[61, 66, 51]⟩ 1039), (.str ⟨#[61, 66, 52]⟩ 1043), (.str ⟨#[61, 66, 53]⟩ 1047), (.str ⟨#[61, 66, 54]⟩ 1051), (.str ⟨#[61, 66, 55]⟩ 1055), (.str ⟨#[61, 66, 56]⟩ 1059), (.str ⟨#[61, 66, 57]⟩ 1063), (.str ⟨#[61, 66, 65]⟩ 1067), (.str ⟨#[61, 66, 66]⟩ 1071), (.str ⟨#[61, 66, 67]⟩ 1075), (.str ⟨#[61, 66, 68]⟩ 1079), (.str ⟨#[61, 66, 69]⟩ 1083), (.str ⟨#[61, 66, 70]⟩ 1087), (.str ⟨#[61, 67, 48]⟩ 1091), (.str ⟨#[61, 67, 49]⟩ 1095), (.str ⟨#[61, 67, 50]⟩ 1099), (.str ⟨#[61, 67, 51]⟩ 1103), (.str ⟨#[61, 67, 52]⟩ 1107), (.str ⟨#[61, 67, 53]⟩ 1111), (.str ⟨#[61, 67, 54]⟩ 1115), (.str ⟨#[61, 67, 55]⟩ 1119), (.str ⟨#[61, 67, 56]⟩ 1123), (.str ⟨#[61, 67, 57]⟩ 1127), (.str ⟨#[61, 67, 65]⟩ 1131), (.str ⟨#[61, 67, 66]⟩ 1135), (.str ⟨#[61, 67, 67]⟩ 1139), (.str ⟨#[61, 67, 68]⟩ 1143), (.str ⟨#[61, 67, 69]⟩ 1147), (.str ⟨#[61, 67, 70]⟩ 1151), (.str ⟨#[61, 68, 48]⟩ 1155), (.str ⟨#[61, 68, 49]⟩ 1159), (.str ⟨#[61, 68, 50]⟩ 1163), (.str ⟨#[61, 68, 51]⟩ 1167), (.str ⟨#[61, 68, 52]⟩ 1171), (.str ⟨#[61, 68, 53]⟩ 1175), (.str ⟨#[61, 68, 54]⟩ 1179), (.str ⟨#[61, 68, 55]⟩ 1183), (.str ⟨#[61, 68, 56]⟩ 1187), (.str ⟨#[61, 68, 57]⟩ 1191), (.str ⟨#[61, 68, 65]⟩ 1195), (.str ⟨#[61, 68, 66]⟩ 1199), (.str ⟨#[61, 68, 67]⟩ 1203), (.str ⟨#[61, 68, 68]⟩ 1207), (.str ⟨#[61, 68, 69]⟩ 1211), (.str ⟨#[61, 68, 70]⟩ 1215), (.str ⟨#[61, 69, 48]⟩ 1219), (.str ⟨#[61, 69, 49]⟩ 1223), (.str ⟨#[61, 69, 50]⟩ 1227), (.str ⟨#[61, 69, 51]⟩ 1231), (.str ⟨#[61, 69, 52]⟩ 1235), (.str ⟨#[61, 69, 53]⟩ 1239), (.str ⟨#[61, 69, 54]⟩ 1243), (.str ⟨#[61, 69, 55]⟩ 1247), (.str ⟨#[61, 69, 56]⟩ 1251), (.str ⟨#[61, 69, 57]⟩ 1255), (.str ⟨#[61, 69, 65]⟩ 1259), (.str ⟨#[61, 69, 66]⟩ 1263), (.str ⟨#[61, 69, 67]⟩ 1267), (.str ⟨#[61, 69, 68]⟩ 1271), (.str ⟨#[61, 69, 69]⟩ 1275), (.str ⟨#[61, 69, 70]⟩ 1279), (.str ⟨#[61, 70, 48]⟩ 1283), (.str ⟨#[61, 70, 49]⟩ 1287), (.str ⟨#[61, 70, 50]⟩ 1291), (.str ⟨#[61, 70, 51]⟩ 1295), (.str ⟨#[61, 70, 52]⟩ 1299), (.str ⟨#[61, 70, 53]⟩ 1303), (.str ⟨#[61, 70, 54]⟩ 1307), (.str ⟨#[61, 70, 55]⟩ 1311), (.str ⟨#[61, 70, 56]⟩ 1315), (.str ⟨#[61, 70, 57]⟩ 1319), (.str ⟨#[61, 70, 65]⟩ 1323), (.str ⟨#[61, 70, 66]⟩ 1327), (.str ⟨#[61, 70, 67]⟩ 1331), (.str ⟨#[61, 70, 68]⟩ 1335), (.str ⟨#[61, 70, 69]⟩ 1339), (.str ⟨#[61, 70, 70]⟩ 1343)] 0), #[]⟩
noncomputable def t9 (p : Params) : BT := (.node (boot_o_0 p) (.node (oS_1 p) (.node (o9_3 p) (.node (boot_o_7 p) (.node (oS_15 p) (.node (oP_31 p) .nil .nil) (.node (o9_47 p) .nil .nil)) (.node (oS_23 p) (.node (o1_39 p) .nil .nil) .nil)) (.node (oS_11 p) (.node (oE_19 p) (.node (o0_35 p) .nil .nil) .nil) (.node (oS_27 p) (.node (o2_43 p) .nil .nil) .nil))) (.node (boot_o_5 p) (.node (boot_o_9 p) (.node (oS_17 p) (.node (o0_33 p) .nil .nil) (.node (o9_49 p) .nil .nil)) (.node (oS_25 p) (.node (o1_41 p) .nil .nil) .nil)) (.node (oS_13 p) (.node (oS_21 p) (.node (o1_37 p) .nil .nil) .nil) (.node (oP_29 p) (.node (o3_45 p) .nil .nil) .nil)))) (.node (oS_2 p) (.node (boot_o_4 p) (.node (boot_o_8 p) (.node (oS_16 p) (.node (o0_32 p) .nil .nil) (.node (o9_48 p) .nil .nil)) (.node (oS_24 p) (.node (o1_40 p) .nil .nil) .nil)) (.node (oS_12 p) (.node (oS_20 p) (.node (o0_36 p) .nil .nil) .nil) (.node (oP_28 p) (.node (o9_44 p) .nil .nil) .nil))) (.node (boot_o_6 p) (.node (boot_o_10 p) (.node (oS_18 p) (.node (o0_34 p) .nil .nil) .nil) (.node (oS_26 p) (.node (o1_42 p) .nil .nil) .nil)) (.node (oS_14 p) (.node (oS_22 p) (.node (o1_38 p) .nil .nil) .nil) (.node (oP_30 p) (.node (o3_46 p) .nil .nil) .nil)))))
noncomputable def o11_3 (p : Params) : Obj := ⟨(.type "dict"), none, (.dict #[⟨(PyData.keyHash p ⟨#[95, 95, 110, 97, 109, 101, 95, 95]⟩), (.str ⟨#[95, 95, 110, 97, 109, 101, 95, 95]⟩ 165), (.str ⟨#[99, 112, 121, 51, 49, 51, 46, 101, 109, 97, 105, 108, 46, 113, 117, 111, 112, 114, 105, 109, 105, 109, 101]⟩ 1355)⟩, ⟨(PyData.keyHash p ⟨#[95, 95, 100, 111, 99, 95, 95]⟩), (.str ⟨#[95, 95, 100, 111, 99, 95, 95]⟩ 166), .none⟩, ⟨(PyData.keyHash p ⟨#[95, 95, 112, 97, 99, 107, 97, 103, 101, 95, 95]⟩), (.str ⟨#[95, 95, 112, 97, 99, 107, 97, 103, 101, 95, 95]⟩ 167), .none⟩, ⟨(PyData.keyHash p ⟨#[95, 95, 108, 111, 97, 100, 101, 114, 95, 95]⟩), (.str ⟨#[95, 95, 108, 111, 97, 100, 101, 114, 95, 95]⟩ 168), (.builtin (String.ofList ['_', '_', 'm', 'a', 'i', 'n', '_', '_', '.', '_', '_', 'l', 'o', 'a', 'd', 'e', 'r', '_', '_', '#', 'o', 'p', 'a', 'q', 'u', 'e']))⟩, ⟨(PyData.keyHash p ⟨#[95, 95, 115, 112, 101, 99, 95, 95]⟩), (.str ⟨#[95, 95, 115, 112, 101, 99, 95, 95]⟩ 169), .none⟩, ⟨(PyData.keyHash p ⟨#[95, 95, 97, 110, 110, 111, 116, 97, 116, 105, 111, 110, 115, 95, 95]⟩), (.str ⟨#[95, 95, 97, 110, 110, 111, 116, 97, 116, 105, 111, 110, 115, 95, 95]⟩ 170), (.ref 6)⟩, ⟨(PyData.keyHash p ⟨#[95, 95, 98, 117, 105, 108, 116, 105, 110, 115, 95, 95]⟩), (.str ⟨#[95, 95, 98, 117, 105, 108, 116, 105, 110, 115, 95, 95]⟩ 171), (.ref 4)⟩, ⟨(PyData.keyHash p ⟨#[95, 95, 102, 105, 108, 101, 95, 95]⟩), (.str ⟨#[95, 95, 102, 105, 108, 101, 95, 95]⟩ 173), (.str ⟨#[47, 99, 108, 97, 105, 109, 47, 99, 117, 116, 46, 112, 121]⟩ 172)⟩, ⟨(PyData.keyHash p ⟨#[95, 95, 99, 97, 99, 104, 101, 100, 95, 95]⟩), (.str ⟨#[95, 95, 99, 97, 99, 104, 101, 100, 95, 95]⟩ 174), .none⟩, ⟨(PyData.keyHash p ⟨#[95, 115, 114, 101]⟩), (.str ⟨#[95, 115, 114, 101]⟩ 275), (.ref 12)⟩, ⟨(PyData.keyHash p ⟨#[95, 116, 119, 105, 110, 95, 114, 101, 95, 49]⟩), (.str ⟨#[95, 116, 119, 105, 110, 95, 114, 101, 95, 49]⟩ 316), (.ref 36)⟩, ⟨(PyData.keyHash p ⟨#[95, 81, 85, 79, 80, 82, 73, 95, 77, 65, 80]⟩), (.str ⟨#[95, 81, 85, 79, 80, 82, 73, 95, 77, 65, 80]⟩ 1344), (.ref 39)⟩, ⟨(PyData.keyHash p ⟨#[95, 81, 85, 79, 80, 82, 73, 95, 72, 69, 65, 68, 69, 82, 95, 77, 65, 80]⟩), (.str ⟨#[95, 81, 85, 79, 80, 82, 73, 95, 72, 69, 65, 68, 69, 82, 95, 77, 65, 80]⟩ 1345), (.ref 44)⟩, ⟨(PyData.keyHash p ⟨#[95, 81, 85, 79, 80, 82, 73, 95, 66, 79, 68, 89, 95, 77, 65, 80]⟩), (.str ⟨#[95, 81, 85, 79, 80, 82, 73, 95, 66, 79, 68, 89, 95, 77, 65, 80]⟩ 1346), (.ref 46)⟩, ⟨(PyData.keyHash p ⟨#[97, 115, 99, 105, 105, 95, 108, 111, 119, 101, 114, 99, 97, 115, 101]⟩), (.str ⟨#[97, 115, 99, 105, 105, 95, 108, 111, 119, 101, 114, 99, 97, 115, 101]⟩ 1348), (.str ⟨#[97, 98, 99, 100, 101, 102, 103, 104, 105, 106, 107, 108, 109, 110, 111, 112, 113, 114, 115, 116, 117, 118, 119, 120, 121, 122]⟩ 1347)⟩, ⟨(PyData.keyHash p ⟨#[97, 115, 99, 105, 105, 95, 117, 112, 112, 101, 114, 99, 97, 115, 101]⟩), (.str ⟨#[97, 115, 99, 105, 105, 95, 117, 112, 112, 101, 114, 99, 97, 115, 101]⟩ 1350), (.str ⟨#[65, 66, 67, 68, 69, 70, 71, 72, 73, 74, 75, 76, 77, 78, 79, 80, 81, 82, 83, 84, 85, 86, 87, 88, 89, 90]⟩ 1349)⟩, ⟨(PyData.keyHash p ⟨#[97, 115, 99, 105, 105, 95, 108, 101, 116, 116, 101, 114, 115]⟩), (.str ⟨#[97, 115, 99, 105, 105, 95, 108, 101, 116, 116, 101, 114, 115]⟩ 1352), (.str ⟨#[97, 98, 99, 100, 101, 102, 103, 104, 105, 106, 107, 108, 109, 110, 111, 112, 113, 114, 115, 116, 117, 118, 119, 120, 121, 122, 65, 66, 67, 68, 69, 70, 71, 72, 73, 74, 75, 76, 77, 78, 79, 80, 81, 82, 83, 84, 85, 86, 87, 88, 89, 90]⟩ 1351)⟩, ⟨(PyData.keyHash p ⟨#[100, 105, 103, 105, 116, 115]⟩), (.str ⟨#[100, 105, 103, 105, 116, 115]⟩ 1354), (.str ⟨#[48, 49, 50, 51, 52, 53, 54, 55, 56, 57]⟩ 1353)⟩, ⟨(PyData.keyHash p ⟨#[99]⟩), (.str ⟨#[99]⟩ 1365), (.int (9) 1851)⟩] 19), #[]⟩
noncomputable def o11_51 (p : Params) : Obj := ⟨(.type "tuple"), none, (.seq #[] 0), #[]⟩
noncomputable def o11_52 (p : Params) : Obj := ⟨(.type "StopIteration"), none, (.fields #[(.ref 51), .none, .none, .none, (.bool false), .none]), #[]⟩
noncomputable def o10_44 (p : Params) : Obj := ⟨(.type "list"), none, (.seq #[(.str ⟨#[61, 48, 48]⟩ 323), (.str ⟨#[61, 48, 49]⟩ 327), (.str ⟨#[61, 48, 50]⟩ 331), (.str ⟨#[61, 48, 51]⟩ 335), (.str ⟨#[61, 48, 52]⟩ 339), (.str ⟨#[61, 48, 53]⟩ 343), (.str ⟨#[61, 48, 54]⟩ 347), (.str ⟨#[61, 48, 55]⟩ 351), (.str ⟨#[61, 48, 56]⟩ 355), (.str ⟨#[61, 48, 57]⟩ 359), (.str ⟨#[61, 48, 65]⟩ 363), (.str ⟨#[61, 48, 66]⟩ 367), (.str ⟨#[61, 48, 67]⟩ 371), (.str ⟨#[61, 48, 68]⟩ 375), (.str ⟨#[61, 48, 69]⟩ 379), (.str ⟨#[61, 48, 70]⟩ 383), (.str ⟨#[61, 49, 48]⟩ 387), (.str ⟨#[61, 49, 49]⟩ 391), (.str ⟨#[61, 49, 50]⟩ 395), (.str ⟨#[61, 49, 51]⟩ 399), (.str ⟨#[61, 49, 52]⟩ 403), (.str ⟨#[61, 49, 53]⟩ 407), (.str ⟨#[61, 49, 54]⟩ 411), (.str ⟨#[61, 49, 55]⟩ 415), (.str ⟨#[61, 49, 56]⟩ 419), (.str ⟨#[61, 49, 57]⟩ 423), (.str ⟨#[61, 49, 65]⟩ 427), (.str ⟨#[61, 49, 66]⟩ 431), (.str ⟨#[61, 49, 67]⟩ 435), (.str ⟨#[61, 49, 68]⟩ 439), (.str ⟨#[61, 49, 69]⟩ 443), (.str ⟨#[61, 49, 70]⟩ 447), (.str ⟨#[95]⟩ 1565), (.str ⟨#[33]⟩ 1369), (.str ⟨#[61, 50, 50]⟩ 459), (.str ⟨#[61, 50, 51]⟩ 463), (.str ⟨#[61, 50, 52]⟩ 467), (.str ⟨#[61, 50, 53]⟩ 471), (.str ⟨#[61, 50, 54]⟩ 475), (.str ⟨#[61, 50, 55]⟩ 479), (.str ⟨#[61, 50, 56]⟩ 483), (.str ⟨#[61, 50, 57]⟩ 487), (.str ⟨#[42]⟩ 1372), (.str ⟨#[43]⟩ 1375), (.str ⟨#[61, 50, 67]⟩ 499), (.str ⟨#[45]⟩ 1366), (.str ⟨#[61, 50, 69]⟩ 507), (.str ⟨#[47]⟩ 1378), (.str ⟨#[48]⟩ 1537), (.str ⟨#[49]⟩ 1540), (.str ⟨#[50]⟩ 1543), (.str ⟨#[51]⟩ 1546), (.str ⟨#[52]⟩ 1549), (.str ⟨#[53]⟩ 1552), (.str ⟨#[54]⟩ 1555), (.str ⟨#[55]⟩ 1558), (.str ⟨#[56]⟩ 1561), (.str ⟨#[57]⟩ 1564), (.str ⟨#[61, 51, 65]⟩ 555), (.str ⟨#[61, 51, 66]⟩ 559), (.str ⟨#[61, 51, 67]⟩ 563), (.str ⟨#[61, 51, 68]⟩ 567), (.str ⟨#[61, 51, 69]⟩ 571), (.str ⟨#[61, 51, 70]⟩ 575), (.str ⟨#[61, 52, 48]⟩ 579), (.str ⟨#[65]⟩ 1459), (.str ⟨#[66]⟩ 1462), (.str ⟨#[67]⟩ 1465), (.str ⟨#[68]⟩ 1468), (.str ⟨#[69]⟩ 1471), (.str ⟨#[70]⟩ 1474), (.str ⟨#[71]⟩ 1477), (.str ⟨#[72]⟩ 1480), (.str ⟨#[73]⟩ 1483), (.str ⟨#[74]⟩ 1486), (.str ⟨#[75]⟩ 1489), (.str ⟨#[76]⟩ 1492), (.str ⟨#[77]⟩ 1495), (.str ⟨#[78]⟩ 1498), (.str ⟨#[79]⟩ 1501), (.str ⟨#[80]⟩ 1504), (.str ⟨#[81]⟩ 1507), (.str ⟨#[82]⟩ 1510), (.str ⟨#[83]⟩ 1513), (.str ⟨#[84]⟩ 1516), (.str ⟨#[85]⟩ 1519), (.str ⟨#[86]⟩ 1522), (.str ⟨#[87]⟩ 1525), (.str ⟨#[88]⟩ 1528), (.str ⟨#[89]⟩ 1531), (.str ⟨#[90]⟩ 1534), (.str ⟨#[61, 53, 66]⟩ 687), (.str ⟨#[61, 53, 67]⟩ 691), (.str ⟨#[61, 53, 68]⟩ 695), (.str ⟨#[61, 53, 69]⟩ 699), (.str ⟨#[61, 53, 70]⟩ 703), (.str ⟨#[61, 54, 48]⟩ 707), (.str ⟨#[97]⟩ 1381), (.str ⟨#[98]⟩ 1384), (.str ⟨#[99]⟩ 1387), (.str ⟨#[100]⟩ 1390), (.str ⟨#[101]⟩ 1393), (.str ⟨#[102]⟩ 1396), (.str ⟨#[103]⟩ 1399), (.str ⟨#[104]⟩ 1402), (.str ⟨#[105]⟩ 1405), (.str ⟨#[106]⟩ 1408), (.str ⟨#[107]⟩ 1411), (.str ⟨#[108]⟩ 1414), (.str ⟨#[109]⟩ 1417), (.str ⟨#[110]⟩ 1420), (.str ⟨#[111]⟩ 1423), (.str ⟨#[112]⟩ 1426), (.str ⟨#[113]⟩ 1429), (.str ⟨#[114]⟩ 1432), (.str ⟨#[115]⟩ 1435), (.str ⟨#[116]⟩ 1438), (.str ⟨#[117]⟩ 1441), (.str ⟨#[118]⟩ 1444), (.str ⟨#[119]⟩ 1447), (.str ⟨#[120]⟩ 1450), (.str ⟨#[121]⟩ 1453), (.str ⟨#[122]⟩ 1456), (.str ⟨#[61, 55, 66]⟩ 815), (.str ⟨#[61, 55, 67]⟩ 819), (.str ⟨#[61, 55, 68]⟩ 823), (.str ⟨#[61, 55, 69]⟩ 827), (.str ⟨#[61, 55, 70]⟩ 831), (.str ⟨#[61, 56, 48]⟩ 835), (.str ⟨#[61, 56, 49]⟩ 839), (.str ⟨#[61, 56, 50]⟩ 843), (.str ⟨#[61, 56, 51]⟩ 847), (.str ⟨#[61, 56, 52]⟩ 851), (.str ⟨#[61, 56, 53]⟩ 855), (.str ⟨#[61, 56, 54]⟩ 859), (.str ⟨#[61, 56, 55]⟩ 863), (.str ⟨#[61, 56, 56]⟩ 867), (.str ⟨#[61, 56, 57]⟩ 871), (.str ⟨#[61, 56, 65]⟩ 875), (.str ⟨#[61, 56, 66]⟩ 879), (.str ⟨#[61, 56, 67]⟩ 883), (.str ⟨#[61, 56, 68]⟩ 887), (.str ⟨#[61, 56, 69]⟩ 891), (.str ⟨#[61, 56, 70]⟩ 895), (.str ⟨#[61, 57, 48]⟩ 899), (.str ⟨#[61, 57, 49]⟩ 903), (.str ⟨#[61, 57, 50]⟩ 907), (.str ⟨#[61, 57, 51]⟩ 911), (.str ⟨#[61, 57, 52]⟩ 915), (.str ⟨#[61, 57, 53]⟩ 919), (.str ⟨#[61, 57, 54]⟩ 923), (.str ⟨#[61, 57, 55]⟩ 927), (.str ⟨#[61, 57, 56]⟩ 931), (.str ⟨#[61, 57, 57]⟩ 935), (.str ⟨#[61, 57, 65]⟩ 939), (.str ⟨#[61, 57, 66]⟩ 943), (.str ⟨#[61, 57, 67]⟩ 947), (.str ⟨#[61, 57, 68]⟩ 951), (.str ⟨#[61, 57, 69]⟩ 955), (.str ⟨#[61, 57, 70]⟩ 959), (.str ⟨#[61, 65, 48]⟩ 963), (.str ⟨#[61, 65, 49]⟩ 967), (.str ⟨#[61, 65, 50]⟩ 971), (.str ⟨#[61, 65, 51]⟩ 975), (.str ⟨#[61, 65, 52]⟩ 979), (.str ⟨#[61, 65, 53]⟩ 983), (.str ⟨#[61, 65, 54]⟩ 987), (.str ⟨#[61, 65, 55]⟩ 991), (.str ⟨#[61, 65, 56]⟩ 995), (.str ⟨#[61, 65, 57]⟩ 999), (.str ⟨#[61, 65, 65]⟩ 1003), (.str ⟨#[61, 65, 66]⟩ 1007), (.str ⟨#[61, 65, 67]⟩ 1011), (.str ⟨#[61, 65, 68]⟩ 1015), (.str ⟨#[61, 65, 69]⟩ 1019), (.str ⟨#[61, 65, 70]⟩ 1023), (.str ⟨#[61, 66, 48]⟩ 1027), (.str ⟨#[61, 66, 49]⟩ 1031), (.str ⟨#[61, 66, 50]⟩ 1035), (.str ⟨#[61, 66, 51]⟩ 1039), (.str ⟨#[61, 66, 52]⟩ 1043), (.str ⟨#[61, 66, 53]⟩ 1047), (.str ⟨#[61, 66, 54]⟩ 1051), (.str ⟨#[61, 66, 55]⟩ 1055), (.str ⟨#[61, 66, 56]⟩ 1059), (.str ⟨#[61, 66, 57]⟩ 1063), (.str ⟨#[61, 66, 65]⟩ 1067), (.str ⟨#[61, 66, 66]⟩ 1071), (.str ⟨#[61, 66, 67]⟩ 1075), (.str ⟨#[61, 66, 68]⟩ 1079), (.str ⟨#[61, 66, 69]⟩ 1083), (.str ⟨#[61, 66, 70]⟩ 1087), (.str ⟨#[61, 67, 48]⟩ 1091), (.str ⟨#[61, 67, 49]⟩ 1095), (.str ⟨#[61, 67, 50]⟩ 1099), (.str ⟨#[61, 67, 51]⟩ 1103), (.str ⟨#[61, 67, 52]⟩ 1107), (.str ⟨#[61, 67, 53]⟩ 1111), (.str ⟨#[61, 67, 54]⟩ 1115), (.str ⟨#[61, 67, 55]⟩ 1119), (.str ⟨#[61, 67, 56]⟩ 1123), (.str ⟨#[61, 67, 57]⟩ 1127), (.str ⟨#[61, 67, 65]⟩ 1131), (.str ⟨#[61, 67, 66]⟩ 1135), (.str ⟨#[61, 67, 67]⟩ 1139), (.str ⟨#[61, 67, 68]⟩ 1143), (.str ⟨#[61, 67, 69]⟩ 1147), (.str ⟨#[61, 67, 70]⟩ 1151), (.str ⟨#[61, 68, 48]⟩ 1155), (.str ⟨#[61, 68, 49]⟩ 1159), (.str ⟨#[61, 68, 50]⟩ 1163), (.str ⟨#[61, 68, 51]⟩ 1167), (.str ⟨#[61, 68, 52]⟩ 1171), (.str ⟨#[61, 68, 53]⟩ 1175), (.str ⟨#[61, 68, 54]⟩ 1179), (.str ⟨#[61, 68, 55]⟩ 1183), (.str ⟨#[61, 68, 56]⟩ 1187), (.str ⟨#[61, 68, 57]⟩ 1191), (.str ⟨#[61, 68, 65]⟩ 1195), (.str ⟨#[61, 68, 66]⟩ 1199), (.str ⟨#[61, 68, 67]⟩ 1203), (.str ⟨#[61, 68, 68]⟩ 1207), (.str ⟨#[61, 68, 69]⟩ 1211), (.str ⟨#[61, 68, 70]⟩ 1215), (.str ⟨#[61, 69, 48]⟩ 1219), (.str ⟨#[61, 69, 49]⟩ 1223), (.str ⟨#[61, 69, 50]⟩ 1227), (.str ⟨#[61, 69, 51]⟩ 1231), (.str ⟨#[61, 69, 52]⟩ 1235), (.str ⟨#[61, 69, 53]⟩ 1239), (.str ⟨#[61, 69, 54]⟩ 1243), (.str ⟨#[61, 69, 55]⟩ 1247), (.str ⟨#[61, 69, 56]⟩ 1251), (.str ⟨#[61, 69, 57]⟩ 1255), (.str ⟨#[61, 69, 65]⟩ 1259), (.str ⟨#[61, 69, 66]⟩ 1263), (.str ⟨#[61, 69, 67]⟩ 1267), (.str ⟨#[61, 69, 68]⟩ 1271), (.str ⟨#[61, 69, 69]⟩ 1275), (.str ⟨#[61, 69, 70]⟩ 1279), (.str ⟨#[61, 70, 48]⟩ 1283), (.str ⟨#[61, 70, 49]⟩ 1287), (.str ⟨#[61, 70, 50]⟩ 1291), (.str ⟨#[61, 70, 51]⟩ 1295), (.str ⟨#[61, 70, 52]⟩ 1299), (.str ⟨#[61, 70, 53]⟩ 1303), (.str ⟨#[61, 70, 54]⟩ 1307), (.str ⟨#[61, 70, 55]⟩ 1311), (.str ⟨#[61, 70, 56]⟩ 1315), (.str ⟨#[61, 70, 57]⟩ 1319), (.str ⟨#[61, 70, 65]⟩ 1323), (.str ⟨#[61, 70, 66]⟩ 1327), (.str ⟨#[61, 70, 67]⟩ 1331), (.str ⟨#[61, 70, 68]⟩ 1335), (.str ⟨#[61, 70, 69]⟩ 1339), (.str ⟨#[61, 70, 70]⟩ 1343)] 0), #[]⟩
noncomputable def o11_50 (p : Params) : Obj := ⟨(.type "bytes_iterator"), none, (.fields #[.none, (.int (95) 0)]), #[]⟩
noncomputable def o11_46 (p : Params) : Obj := ⟨(.type "list"), none, (.seq #[(.str ⟨#[61, 48, 48]⟩ 323), (.str ⟨#[61, 48, 49]⟩ 327), (.str ⟨#[61, 48, 50]⟩ 331), (.str ⟨#[61, 48, 51]⟩ 335), (.str ⟨#[61, 48, 52]⟩ 339), (.str ⟨#[61, 48, 53]⟩ 343), (.str ⟨#[61, 48, 54]⟩ 347), (.str ⟨#[61, 48, 55]⟩ 351), (.str ⟨#[61, 48, 56]⟩ 355), (.str ⟨#[9]⟩ 1853), (.str ⟨#[61, 48, 65]⟩ 363), (.str ⟨#[61, 48, 66]⟩ 367), (.str ⟨#[61, 48, 67]⟩ 371), (.str ⟨#[61, 48, 68]⟩ 375), (.str ⟨#[61, 48, 69]⟩ 379), (.str ⟨#[61, 48, 70]⟩ 383), (.str ⟨#[61, 49, 48]⟩ 387), (.str ⟨#[61, 49, 49]⟩ 391), (.str ⟨#[61, 49, 50]⟩ 395), (.str ⟨#[61, 49, 51]⟩ 399), (.str ⟨#[61, 49, 52]⟩ 403), (.str ⟨#[61, 49, 53]⟩ 407), (.str ⟨#[61, 49, 54]⟩ 411), (.str ⟨#[61, 49, 55]⟩ 415), (.str ⟨#[61, 49, 56]⟩ 419), (.str ⟨#[61, 49, 57]⟩ 423), (.str ⟨#[61, 49, 65]⟩ 427), (.str ⟨#[61, 49, 66]⟩ 431), (.str ⟨#[61, 49, 67]⟩ 435), (.str ⟨#[61, 49, 68]⟩ 439), (.str ⟨#[61, 49, 69]⟩ 443), (.str ⟨#[61, 49, 70]⟩ 447), (.str ⟨#[32]⟩ 1571), (.str ⟨#[33]⟩ 1574), (.str ⟨#[34]⟩ 1577), (.str ⟨#[35]⟩ 1580), (.str ⟨#[36]⟩ 1583), (.str ⟨#[37]⟩ 1586), (.str ⟨#[38]⟩ 1589), (.str ⟨#[39]⟩ 1592), (.str ⟨#[40]⟩ 1595), (.str ⟨#[41]⟩ 1598), (.str ⟨#[42]⟩ 1601), (.str ⟨#[43]⟩ 1604), (.str ⟨#[44]⟩ 1607), (.str ⟨#[45]⟩ 1610), (.str ⟨#[46]⟩ 1613), (.str ⟨#[47]⟩ 1616), (.str ⟨#[48]⟩ 1619), (.str ⟨#[49]⟩ 1622), (.str ⟨#[50]⟩ 1625), (.str ⟨#[51]⟩ 1628), (.str ⟨#[52]⟩ 1631), (.str ⟨#[53]⟩ 1634), (.str ⟨#[54]⟩ 1637), (.str ⟨#[55]⟩ 1640), (.str ⟨#[56]⟩ 1643), (.str ⟨#[57]⟩ 1646), (.str ⟨#[58]⟩ 1649), (.str ⟨#[59]⟩ 1652), (.str ⟨#[60]⟩ 1655), (.str ⟨#[61, 51, 68]⟩ 567), (.str ⟨#[62]⟩ 1658), (.str ⟨#[63]⟩ 1661), (.str ⟨#[64]⟩ 1664), (.str ⟨#[65]⟩ 1667), (.str ⟨#[66]⟩ 1670), (.str ⟨#[67]⟩ 1673), (.str ⟨#[68]⟩ 1676), (.str ⟨#[69]⟩ 1679), (.str ⟨#[70]⟩ 1682), (.str ⟨#[71]⟩ 1685), (.str ⟨#[72]⟩ 1688), (.str ⟨#[73]⟩ 1691), (.str ⟨#[74]⟩ 1694), (.str ⟨#[75]⟩ 1697), (.str ⟨#[76]⟩ 1700), (.str ⟨#[77]⟩ 1703), (.str ⟨#[78]⟩ 1706), (.str ⟨#[79]⟩ 1709), (.str ⟨#[80]⟩ 1712), (.str ⟨#[81]⟩ 1715), (.str ⟨#[82]⟩ 1718), (.str ⟨#[83]⟩ 1721), (.str ⟨#[84]⟩ 1724), (.str ⟨#[85]⟩ 1727), (.str ⟨#[86]⟩ 1730), (.str ⟨#[87]⟩ 1733), (.str ⟨#[88]⟩ 1736), (.str ⟨#[89]⟩ 1739), (.str ⟨#[90]⟩ 1742), (.str ⟨#[91]⟩ 1745), (.str ⟨#[92]⟩ 1748), (.str ⟨#[93]⟩ 1751), (.str ⟨#[94]⟩ 1754), (.str ⟨#[95]⟩ 1757), (.str ⟨#[96]⟩ 1760), (.str ⟨#[97]⟩ 1763), (.str ⟨#[98]⟩ 1766), (.str ⟨#[99]⟩ 1769), (.str ⟨#[100]⟩ 1772), (.str ⟨#[101]⟩ 1775), (.str ⟨#[102]⟩ 1778), (.str ⟨#[103]⟩ 1781), (.str ⟨#[104]⟩ 1784), (.str ⟨#[105]⟩ 1787), (.str ⟨#[106]⟩ 1790), (.str ⟨#[107]⟩ 1793), (.str ⟨#[108]⟩ 1796), (.str ⟨#[109]⟩ 1799), (.str ⟨#[110]⟩ 1802), (.str ⟨#[111]⟩ 1805), (.str ⟨#[112]⟩ 1808), (.str ⟨#[113]⟩ 1811), (.str ⟨#[114]⟩ 1814), (.str ⟨#[115]⟩ 1817), (.str ⟨#[116]⟩ 1820), (.str ⟨#[117]⟩ 1823), (.str ⟨#[118]⟩ 1826), (.str ⟨#[119]⟩ 1829), (.str ⟨#[120]⟩ 1832), (.str ⟨#[121]⟩ 1835), (.str ⟨#[122]⟩ 1838), (.str ⟨#[123]⟩ 1841), (.str ⟨#[124]⟩ 1844), (.str ⟨#[125]⟩ 1847), (.str ⟨#[126]⟩ 1850), (.str ⟨#[61, 55, 70]⟩ 831), (.str ⟨#[61, 56, 48]⟩ 835), (.str ⟨#[61, 56, 49]⟩ 839), (.str ⟨#[61, 56, 50]⟩ 843), (.str ⟨#[61, 56, 51]⟩ 847), (.str ⟨#[61, 56, 52]⟩ 851), (.str ⟨#[61, 56, 53]⟩ 855), (.str ⟨#[61, 56, 54]⟩ 859), (.str ⟨#[61, 56, 55]⟩ 863), (.str ⟨#[61, 56, 56]⟩ 867), (.str ⟨#[61, 56, 57]⟩ 871), (.str ⟨#[61, 56, 65]⟩ 875), (.str ⟨#[61, 56, 66]⟩ 879), (.str ⟨#[61, 56, 67]⟩ 883), (.str ⟨#[61, 56, 68]⟩ 887), (.str ⟨#[61, 56, 69]⟩ 891), (.str ⟨#[61, 56, 70]⟩ 895), (.str ⟨#[61, 57, 48]⟩ 899), (.str ⟨#[61, 57, 49]⟩ 903), (.str ⟨#[61, 57, 50]⟩ 907), (.str ⟨#[61, 57, 51]⟩ 911), (.str ⟨#[61, 57, 52]⟩ 915), (.str ⟨#[61, 57, 53]⟩ 919), (.str ⟨#[61, 57, 54]⟩ 923), (.str ⟨#[61, 57, 55]⟩ 927), (.str ⟨#[61, 57, 56]⟩ 931), (.str ⟨#[61, 57, 57]⟩ 935), (.str ⟨#[61, 57, 65]⟩ 939), (.str ⟨#[61, 57, 66]⟩ 943), (.str ⟨#[61, 57, 67]⟩ 947), (.str ⟨#[61, 57, 68]⟩ 951), (.str ⟨#[61, 57, 69]⟩ 955), (.str ⟨#[61, 57, 70]⟩ 959), (.str ⟨#[61, 65, 48]⟩ 963), (.str ⟨#[61, 65, 49]⟩ 967), (.str ⟨#[61, 65, 50]⟩ 971), (.str ⟨#[61, 65, 51]⟩ 975), (.str ⟨#[61, 65, 52]⟩ 979), (.str ⟨#[61, 65, 53]⟩ 983), (.str ⟨#[61, 65, 54]⟩ 987), (.str ⟨#[61, 65, 55]⟩ 991), (.str ⟨#[61, 65, 56]⟩ 995), (.str ⟨#[61, 65, 57]⟩ 999), (.str ⟨#[61, 65, 65]⟩ 1003), (.str ⟨#[61, 65, 66]⟩ 1007), (.str ⟨#[61, 65, 67]⟩ 1011), (.str ⟨#[61, 65, 68]⟩ 1015), (.str ⟨#[61, 65, 69]⟩ 1019), (.str ⟨#[61, 65, 70]⟩ 1023), (.str ⟨#[61, 66, 48]⟩ 1027), (.str ⟨#[61, 66, 49]⟩ 1031), (.str ⟨#[61, 66, 50]⟩ 1035), (.str ⟨#[61, 66, 51]⟩ 1039), (.str ⟨#[61, 66, 52]⟩ 1043), (.str ⟨#[61, 66, 53]⟩ 1047), (.str ⟨#[61, 66, 54]⟩ 1051), (.str ⟨#[61, 66, 55]⟩ 1055), (.str ⟨#[61, 66, 56]⟩ 1059), (.str ⟨#[61, 66, 57]⟩ 1063), (.str ⟨#[61, 66, 65]⟩ 1067), (.str ⟨#[61, 66, 66]⟩ 1071), (.str ⟨#[61, 66, 67]⟩ 1075), (.str ⟨#[61, 66, 68]⟩ 1079), (.str ⟨#[61, 66, 69]⟩ 1083), (.str ⟨#[61, 66, 70]⟩ 1087), (.str ⟨#[61, 67, 48]⟩ 1091), (.str ⟨#[61, 67, 49]⟩ 1095), (.str ⟨#[61, 67, 50]⟩ 1099), (.str ⟨#[61, 67, 51]⟩ 1103), (.str ⟨#[61, 67, 52]⟩ 1107), (.str ⟨#[61, 67, 53]⟩ 1111), (.str ⟨#[61, 67, 54]⟩ 1115), (.str ⟨#[61, 67, 55]⟩ 1119), (.str ⟨#[61, 67, 56]⟩ 1123), (.str ⟨#[61, 67, 57]⟩ 1127), (.str ⟨#[61, 67, 65]⟩ 1131), (.str ⟨#[61, 67, 66]⟩ 1135), (.str ⟨#[61, 67, 67]⟩ 1139), (.str ⟨#[61, 67, 68]⟩ 1143), (.str ⟨#[61, 67, 69]⟩ 1147), (.str ⟨#[61, 67, 70]⟩ 1151), (.str ⟨#[61, 68, 48]⟩ 1155), (.str ⟨#[61, 68, 49]⟩ 1159), (.str ⟨#[61, 68, 50]⟩ 1163), (.str ⟨#[61, 68, 51]⟩ 1167), (.str ⟨#[61, 68, 52]⟩ 1171), (.str ⟨#[61, 68, 53]⟩ 1175), (.str ⟨#[61, 68, 54]⟩ 1179), (.str ⟨#[61, 68, 55]⟩ 1183), (.str ⟨#[61, 68, 56]⟩ 1187), (.str ⟨#[61, 68, 57]⟩ 1191), (.str ⟨#[61, 68, 65]⟩ 1195), (.str ⟨#[61, 68, 66]⟩ 1199), (.str ⟨#[61, 68, 67]⟩ 1203), (.str ⟨#[61, 68, 68]⟩ 1207), (.str ⟨#[61, 68, 69]⟩ 1211), (.str ⟨#[61, 68, 70]⟩ 1215), (.str ⟨#[61, 69, 48]⟩ 1219), (.str ⟨#[61, 69, 49]⟩ 1223), (.str ⟨#[61, 69, 50]⟩ 1227), (.str ⟨#[61, 69, 51]⟩ 1231), (.str ⟨#[61, 69, 52]⟩ 1235), (.str ⟨#[61, 69, 53]⟩ 1239), (.str ⟨#[61, 69, 54]⟩ 1243), (.str ⟨#[61, 69, 55]⟩ 1247), (.str ⟨#[61, 69, 56]⟩ 1251), (.str ⟨#[61, 69, 57]⟩ 1255), (.str ⟨#[61, 69, 65]⟩ 1259), (.str ⟨#[61, 69, 66]⟩ 1263), (.str ⟨#[61, 69, 67]⟩ 1267), (.str ⟨#[61, 69, 68]⟩ 1271), (.str ⟨#[61, 69, 69]⟩ 1275), (.str ⟨#[61, 69, 70]⟩ 1279), (.str ⟨#[61, 70, 48]⟩ 1283), (.str ⟨#[61, 70, 49]⟩ 1287), (.str ⟨#[61, 70, 50]⟩ 1291), (.str ⟨#[61, 70, 51]⟩ 1295), (.str ⟨#[61, 70, 52]⟩ 1299), (.str ⟨#[61, 70, 53]⟩ 1303), (.str ⟨#[61, 70, 54]⟩ 1307), (.str ⟨#[61, 70, 55]⟩ 1311), (.str ⟨#[61, 70, 56]⟩ 1315), (.str ⟨#[61, 70, 57]⟩ 1319), (.str ⟨#[61, 70, 65]⟩ 1323), (.str ⟨#[61, 70, 66]⟩ 1327), (.str ⟨#[61, 70, 67]⟩ 1331), (.str ⟨#[61, 70, 68]⟩ 1335), (.str ⟨#[61, 70, 69]⟩ 1339), (.str ⟨#[61, 70, 70]⟩ 1343)] 0), #[]⟩
noncomputable def t11 (p : Params) : BT := (.node (boot_o_0 p) (.node (oS_1 p) (.node (o11_3 p) (.node (boot_o_7 p) (.node (oS_15 p) (.node (oP_31 p) .nil .nil) (.node (o9_47 p) .nil .nil)) (.node (oS_23 p) (.node (o1_39 p) .nil .nil) .nil)) (.node (oS_11 p) (.node (oE_19 p) (.node (o0_35 p) .nil .nil) (.node (o11_51 p) .nil .nil)) (.node (oS_27 p) (.node (o2_43 p) .nil .nil) .nil))) (.node (boot_o_5 p) (.node (boot_o_9 p) (.node (oS_17 p) (.node (o0_33 p) .nil .nil) (.node (o9_49 p) .nil .nil)) (.node (oS_25 p) (.node (o1_41 p) .nil .nil) .nil)) (.node (oS_13 p) (.node (oS_21 p) (.node (o1_37 p) .nil .nil) .nil) (.node (oP_29 p) (.node (o3_45 p) .nil .nil) .nil)))) (.node (oS_2 p) (.node (boot_o_4 p) (.node (boot_o_8 p) (.node (oS_16 p) (.node (o0_32 p) .nil .nil) (.node (o9_48 p) .nil .nil)) (.node (oS_24 p) (.node (o1_40 p) .nil .nil) .nil)) (.node (oS_12 p) (.node (oS_20 p) (.node (o0_36 p) .nil .nil) (.node (o11_52 p) .nil .nil)) (.node (oP_28 p) (.node (o10_44 p) .nil .nil) .nil))) (.node (boot_o_6 p) (.node (boot_o_10 p) (.node (oS_18 p) (.node (o0_34 p) .nil .nil) (.node (o11_50 p) .nil .nil)) (.node (oS_26 p) (.node (o1_42 p) .nil .nil) .nil)) (.node (oS_14 p) (.node (oS_22 p) (.node (o1_38 p) .nil .nil) .nil) (.node (oP_30 p) (.node (o11_46 p) .nil .nil) .nil)))))
noncomputable def o21_95 (p : Params) : Obj := ⟨.none, none, (.fields #[]), #[]⟩
noncomputable def o16_79 (p : Params) : Obj := ⟨(.type "StopIteration"), none, (.fields #[(.ref 78), .none, .none, .none, (.bool false), .none]), #[]⟩
noncomputable def o15_75 (p : Params) : Obj := ⟨(.type "slice"), none, (.fields #[.none, .none, .none]), #[]⟩
noncomputable def o19_91 (p : Params) : Obj := holderO (kO p 93)
noncomputable def o27_129 (p : Params) : Obj := holderO (kO p 131)
noncomputable def o18_81 (p : Params) : Obj := ⟨.none, none, (.fields #[]), #[]⟩
noncomputable def o30_145 (p : Params) : Obj := ⟨.none, none, (.fields #[]), #[]⟩
noncomputable def o22_105 (p : Params) : Obj := holderO (kO p 107)
noncomputable def o12_57 (p : Params) : Obj := holderO (kO p 59)
noncomputable def o26_121 (p : Params) : Obj := ⟨.none, none, (.fields #[]), #[]⟩
noncomputable def o14_69 (p : Params) : Obj := ⟨.none, none, (.fields #[]), #[]⟩
noncomputable def o28_133 (p : Params) : Obj := ⟨.none, none, (.fields #[]), #[]⟩
noncomputable def o25_117 (p : Params) : Obj := holderO (kO p 119)
noncomputable def o30_29 (p : Params) : Obj := ⟨.none, none, (.fields #[(.int (16) 0), (.int (0) 0), (.ref 58), (.int (18) 0), (.int (0) 0), (.ref 65), (.int (20) 0), (.int (0) 0), (.ref 73), (.int (29) 0), (.int (0) 0), (.ref 85), (.int (32) 0), (.int (0) 0), (.ref 92), (.int (36) 0), (.int (0) 0), (.ref 99), (.int (38) 0), (.int (0) 0), (.ref 106), (.int (40) 0), (.int (0) 0), (.ref 113), (.int (48) 0), (.int (0) 0), (.ref 118), (.int (50) 0), (.int (0) 0), (.ref 123), (.int (52) 0), (.int (0) 0), (.ref 130), (.int (59) 0), (.int (0) 0), (.ref 137), (.int (68) 0), (.int (0) 0), (.ref 142), (.int (70) 0), (.int (0) 0), (.ref 147)]), #[]⟩
noncomputable def o16_77 (p : Params) : Obj := ⟨(.type "bytes_iterator"), none, (.fields #[.none, (.int (2) 0)]), #[]⟩
noncomputable def o29_141 (p : Params) : Obj := holderO (kO p 143)
noncomputable def o23_109 (p : Params) : Obj := ⟨.none, none, (.fields #[]), #[]⟩
noncomputable def o13_61 (p : Params) : Obj := ⟨.none, none, (.fields #[]), #[]⟩
noncomputable def o13_64 (p : Params) : Obj := holderO (kO p 66)
noncomputable def o23_112 (p : Params) : Obj := holderO (kO p 114)
noncomputable def o14_72 (p : Params) : Obj := holderO (kO p 74)
noncomputable def o28_136 (p : Params) : Obj := holderO (kO p 138)
noncomputable def o19_88 (p : Params) : Obj := ⟨.none, none, (.fields #[]), #[]⟩
noncomputable def o18_84 (p : Params) : Obj := holderO (kO p 86)
noncomputable def o25_116 (p : Params) : Obj := ⟨.none, none, (.fields #[]), #[]⟩
noncomputable def o29_140 (p : Params) : Obj := ⟨.none, none, (.fields #[]), #[]⟩
noncomputable def o21_98 (p : Params) : Obj := holderO (kO p 100)
noncomputable def o30_146 (p : Params) : Obj := holderO (kO p 148)
noncomputable def o26_122 (p : Params) : Obj := holderO (kO p 124)
noncomputable def o22_102 (p : Params) : Obj := ⟨.none, none, (.fields #[]), #[]⟩
noncomputable def o12_54 (p : Params) : Obj := ⟨.none, none, (.fields #[]), #[]⟩
noncomputable def o16_78 (p : Params) : Obj := ⟨(.type "tuple"), none, (.seq #[] 0), #[]⟩
noncomputable def o27_126 (p : Params) : Obj := ⟨.none, none, (.fields #[]), #[]⟩
noncomputable def t30 (p : Params) : BT := (.node (boot_o_0 p) (.node (oS_1 p) (.node (kO p 3) (.node (boot_o_7 p) (.node (oS_15 p) (.node (oP_31 p) (.node (kO p 63) (.node (kO p 127) .nil .nil) .nil) (.node (o21_95 p) .nil .nil)) (.node (o9_47 p) (.node (o16_79 p) (.node (kO p 143) .nil .nil) .nil) (.node (kO p 111) .nil .nil))) (.node (oS_23 p) (.node (kO p 39) (.node (kO p 71) (.node (kO p 135) .nil .nil) .nil) (.node (kO p 103) .nil .nil)) (.node (kO p 55) (.node (kO p 87) .nil .nil) (.node (kO p 119) .nil .nil)))) (.node (kO p 11) (.node (oE_19 p) (.node (kO p 35) (.node (kO p 67) (.node (kO p 131) .nil .nil) .nil) (.node (kO p 99) .nil .nil)) (.node (o11_51 p) (.node (kO p 83) (.node (kO p 147) .nil .nil) .nil) (.node (kO p 115) .nil .nil))) (.node (oS_27 p) (.node (o2_43 p) (.node (o15_75 p) (.node (kO p 139) .nil .nil) .nil) (.node (kO p 107) .nil .nil)) (.node (kO p 59) (.node (o19_91 p) .nil .nil) (.node (kO p 123) .nil .nil))))) (.node (boot_o_5 p) (.node (boot_o_9 p) (.node (oS_17 p) (.node (o0_33 p) (.node (kO p 65) (.node (o27_129 p) .nil .nil) .nil) (.node (kO p 97) .nil .nil)) (.node (o9_49 p) (.node (o18_81 p) (.node (o30_145 p) .nil .nil) .nil) (.node (kO p 113) .nil .nil))) (.node (oS_25 p) (.node (o1_41 p) (.node (kO p 73) (.node (kO p 137) .nil .nil) .nil) (.node (o22_105 p) .nil .nil)) (.node (o12_57 p) (.node (kO p 89) .nil .nil) (.node (o26_121 p) .nil .nil)))) (.node (oS_13 p) (.node (oS_21 p) (.node (o1_37 p) (.node (o14_69 p) (.node (o28_133 p) .nil .nil) .nil) (.node (kO p 101) .nil .nil)) (.node (kO p 53) (.node (kO p 85) .nil .nil) (.node (o25_117 p) .nil .nil))) (.node (o30_29 p) (.node (o3_45 p) (.node (o16_77 p) (.node (o29_141 p) .nil .nil) .nil) (.node (o23_109 p) .nil .nil)) (.node (o13_61 p) (.node (kO p 93) .nil .nil) (.node (kO p 125) .nil .nil)))))) (.node (kO p 2) (.node (boot_o_4 p) (.node (boot_o_8 p) (.node (oS_16 p) (.node (o0_32 p) (.node (o13_64 p) (.node (kO p 128) .nil .nil) .nil) (.node (kO p 96) .nil .nil)) (.node (o9_48 p) (.node (kO p 80) (.node (kO p 144) .nil .nil) .nil) (.node (o23_112 p) .nil .nil))) (.node (oS_24 p) (.node (o1_40 p) (.node (o14_72 p) (.node (o28_136 p) .nil .nil) .nil) (.node (kO p 104) .nil .nil)) (.node (kO p 56) (.node (o19_88 p) .nil .nil) (.node (kO p 120) .nil .nil)))) (.node (kO p 12) (.node (oS_20 p) (.node (kO p 36) (.node (kO p 68) (.node (kO p 132) .nil .nil) .nil) (.node (kO p 100) .nil .nil)) (.node (o11_52 p) (.node (o18_84 p) (.node (kO p 148) .nil .nil) .nil) (.node (o25_116 p) .nil .nil))) (.node (oP_28 p) (.node (kO p 44) (.node (kO p 76) (.node (o29_140 p) .nil .nil) .nil) (.node (kO p 108) .nil .nil)) (.node (kO p 60) (.node (kO p 92) .nil .nil) (.node (kO p 124) .nil .nil))))) (.node (kO p 6) (.node (boot_o_10 p) (.node (oS_18 p) (.node (o0_34 p) (.node (kO p 66) (.node (kO p 130) .nil .nil) .nil) (.node (o21_98 p) .nil .nil)) (.node (o11_50 p) (.node (kO p 82) (.node (o30_146 p) .nil .nil) .nil) (.node (kO p 114) .nil .nil))) (.node (oS_26 p) (.node (o1_42 p) (.node (kO p 74) (.node (kO p 138) .nil .nil) .nil) (.node (kO p 106) .nil .nil)) (.node (kO p 58) (.node (kO p 90) .nil .nil) (.node (o26_122 p) .nil .nil)))) (.node (oS_14 p) (.node (oS_22 p) (.node (o1_38 p) (.node (kO p 70) (.node (kO p 134) .nil .nil) .nil) (.node (o22_102 p) .nil .nil)) (.node (o12_54 p) (.node (kO p 86) .nil .nil) (.node (kO p 118) .nil .nil))) (.node (oP_30 p) (.node (kO p 46) (.node (o16_78 p) (.node (kO p 142) .nil .nil) .nil) (.node (kO p 110) .nil .nil)) (.node (kO p 62) (.node (kO p 94) .nil .nil) (.node (o27_126 p) .nil .nil)))))))
noncomputable def h30 (p : Params) : Heap := ⟨⟨[(boot_o_0 p), (oS_1 p), (kO p 2), (kO p 3), (boot_o_4 p), (boot_o_5 p), (kO p 6), (boot_o_7 p), (boot_o_8 p), (boot_o_9 p), (boot_o_10 p), (kO p 11), (kO p 12), (oS_13 p), (oS_14 p), (oS_15 p), (oS_16 p), (oS_17 p), (oS_18 p), (oE_19 p), (oS_20 p), (oS_21 p), (oS_22 p), (oS_23 p), (oS_24 p), (oS_25 p), (oS_26 p), (oS_27 p), (oP_28 p), (o30_29 p), (oP_30 p), (oP_31 p), (o0_32 p), (o0_33 p), (o0_34 p), (kO p 35), (kO p 36), (o1_37 p), (o1_38 p), (kO p 39), (o1_40 p), (o1_41 p), (o1_42 p), (o2_43 p), (kO p 44), (o3_45 p), (kO p 46), (o9_47 p), (o9_48 p), (o9_49 p), (o11_50 p), (o11_51 p), (o11_52 p), (kO p 53), (o12_54 p), (kO p 55), (kO p 56), (o12_57 p), (kO p 58), (kO p 59), (kO p 60), (o13_61 p), (kO p 62), (kO p 63), (o13_64 p), (kO p 65), (kO p 66), (kO p 67), (kO p 68), (o14_69 p), (kO p 70), (kO p 71), (o14_72 p), (kO p 73), (kO p 74), (o15_75 p), (kO p 76), (o16_77 p), (o16_78 p), (o16_79 p), (kO p 80), (o18_81 p), (kO p 82), (kO p 83), (o18_84 p), (kO p 85), (kO p 86), (kO p 87), (o19_88 p), (kO p 89), (kO p 90), (o19_91 p), (kO p 92), (kO p 93), (kO p 94), (o21_95 p), (kO p 96), (kO p 97), (o21_98 p), (kO p 99), (kO p 100), (kO p 101), (o22_102 p), (kO p 103), (kO p 104), (o22_105 p), (kO p 106), (kO p 107), (kO p 108), (o23_109 p), (kO p 110), (kO p 111), (o23_112 p), (kO p 113), (kO p 114), (kO p 115), (o25_116 p), (o25_117 p), (kO p 118), (kO p 119), (kO p 120), (o26_121 p), (o26_122 p), (kO p 123), (kO p 124), (kO p 125), (o27_126 p), (kO p 127), (kO p 128), (o27_129 p), (kO p 130), (kO p 131), (kO p 132), (o28_133 p), (kO p 134), (kO p 135), (o28_136 p), (kO p 137), (kO p 138), (kO p 139), (o29_140 p), (o29_141 p), (kO p 142), (kO p 143), (kO p 144), (o30_145 p), (o30_146 p), (kO p 147), (kO p 148)]⟩, {}⟩
noncomputable def sP (w : World) (os : OsState) : SharedT := ⟨tP w.params, 32, {}, ⟨[]⟩, boot_drawn, 282, os⟩
noncomputable def s1 (w : World) (os : OsState) : SharedT := ⟨t1 w.params, 43, {}, ⟨[]⟩, boot_drawn, 1345, os⟩
noncomputable def s9 (w : World) (os : OsState) : SharedT := ⟨t9 w.params, 50, {}, ⟨[]⟩, boot_drawn, 1565, os⟩
noncomputable def s11 (w : World) (os : OsState) : SharedT := ⟨t11 w.params, 53, {}, ⟨[]⟩, boot_drawn, 1854, os⟩
noncomputable def s30 (w : World) (os : OsState) : SharedT := ⟨t30 w.params, 149, {}, ⟨[]⟩, boot_drawn, 1975, os⟩
theorem opening_runs : ∀ w : World, importEnds treeTable (opening PySem.Challenge.pw_ik0023_01) w 800 (start (opening PySem.Challenge.pw_ik0023_01)).1 (start (opening PySem.Challenge.pw_ik0023_01)).2 = some ⟨hE w.params, ⟨[]⟩, boot_drawn, 276, (start (opening PySem.Challenge.pw_ik0023_01)).1.os⟩ := by
  intro w
  rw [PySem.W.Fast.te10274390034422433532, PySem.W.Fast.te1435165496053646825, PySem.W.Fast.te14364793385576792824, PySem.W.Fast.te11757696177077540139]
  kernel_rfl
theorem fence_runs : ∀ w : World, (fun os => (fenceModules? PySem.Challenge.pw_ik0023_01 ⟨hE w.params, ⟨[]⟩, boot_drawn, 276, os⟩).map (fun s => (s.heap, s.gens, s.drawn, s.toks))) = fun _ => some (hS w.params, ⟨[]⟩, boot_drawn, 276) := by
  intro w
  rw [PySem.W.Fast.te14289696077712309145, PySem.W.Fast.te11757696177077540139]
  kernel_rfl
theorem size_is : ∀ w : World, ((hS w.params).isNs mainGlobals && (⟨[]⟩ : Array GenState).size == 0, (hS w.params).objs.size, (hS w.params).nsMap mainGlobals "__annotations__") = (true, 28, some (.ref 6)) := by
  intro w
  rw [PySem.W.Fast.te8920871248978507458]
  kernel_rfl
theorem pre_runs : ∀ w : World, (fun os : OsState => topGo treeTable PySem.Challenge.pw_ik0023_01 w 28 (some (.ref 6)) 12 ⟨hS w.params, ⟨[]⟩, boot_drawn, 276, os⟩ (topStub PySem.Challenge.pw_ik0023_01)) = fun os => some (⟨hP w.params, ⟨[]⟩, boot_drawn, 282, os⟩, ⟨denote treeTable (codeT PySem.Challenge.pw_ik0023_01), codeT PySem.Challenge.pw_ik0023_01, posQ, [topFrame posQ]⟩) := by
  intro w
  rw [PySem.W.Fast.te15667345088766844465, PySem.W.Fast.te11892475500146522536, PySem.W.Fast.te14364793385576792824, PySem.W.Fast.te11757696177077540139]
  kernel_rfl
theorem block_runs : ∀ w : World, (fun os : OsState => segRun treeTable PySem.Challenge.pw_ik0023_01 w 28 (some (.ref 6)) 1 1 ⟨hP w.params, ⟨[]⟩, boot_drawn, 282, os⟩ (blockOf (behindTheImports PySem.Challenge.pw_ik0023_01) (envT PySem.Challenge.pw_ik0023_01) (codeT PySem.Challenge.pw_ik0023_01) posQ [topFrame posQ])) = fun os => some (Flow.next, (sP w os).abs, codeT PySem.Challenge.pw_ik0023_01, posQ) := by
  intro w
  rw [PySem.W.Fast.te14374325043358763698, PySem.W.Fast.te14364793385576792824, PySem.W.Fast.te11757696177077540139]
  kernel_rfl
def R1 (w : World) : Prop := (fun os : OsState => segRunT treeTable PySem.Challenge.pw_ik0023_01 w 28 (some (.ref 6)) 1 9680 (sP w os) (piecesOf ((behindTheImports PySem.Challenge.pw_ik0023_01).take 2) (envT PySem.Challenge.pw_ik0023_01) (codeT PySem.Challenge.pw_ik0023_01) posQ [topFrame posQ])) = fun os => some (Flow.next, s1 w os, codeT PySem.Challenge.pw_ik0023_01, ⟨3, 0, 3, 11⟩)
set_option maxHeartbeats 0 in
theorem run_1_ff : ∀ w : World, R1 ((w.withFollow "special-get-raises" false).withFollow "comprehension-iter-twice" false) := by
  intro w
  unfold R1
  rw [PySem.W.Fast.te10110043849684766642, PySem.W.Fast.te14364793385576792824, PySem.W.Fast.te11757696177077540139]
  kernel_rfl
set_option maxHeartbeats 0 in
theorem run_1_ft : ∀ w : World, R1 ((w.withFollow "special-get-raises" true).withFollow "comprehension-iter-twice" false) := by
  intro w
  unfold R1
  rw [PySem.W.Fast.te10110043849684766642, PySem.W.Fast.te14364793385576792824, PySem.W.Fast.te11757696177077540139]
  kernel_rfl
set_option maxHeartbeats 0 in
theorem run_1_tf : ∀ w : World, R1 ((w.withFollow "special-get-raises" false).withFollow "comprehension-iter-twice" true) := by
  intro w
  unfold R1
  rw [PySem.W.Fast.te10110043849684766642, PySem.W.Fast.te14364793385576792824, PySem.W.Fast.te11757696177077540139]
  kernel_rfl
set_option maxHeartbeats 0 in
theorem run_1_tt : ∀ w : World, R1 ((w.withFollow "special-get-raises" true).withFollow "comprehension-iter-twice" true) := by
  intro w
  unfold R1
  rw [PySem.W.Fast.te10110043849684766642, PySem.W.Fast.te14364793385576792824, PySem.W.Fast.te11757696177077540139]
  kernel_rfl
theorem run_1 : ∀ w : World, R1 w := (byRow2 "comprehension-iter-twice" (P := fun w => R1 w) (byRow2 "special-get-raises" (P := fun w => R1 (w.withFollow "comprehension-iter-twice" false)) run_1_ff run_1_ft) (byRow2 "special-get-raises" (P := fun w => R1 (w.withFollow "comprehension-iter-twice" true)) run_1_tf run_1_tt))
def R9 (w : World) : Prop := (fun os : OsState => segRunT treeTable PySem.Challenge.pw_ik0023_01 w 28 (some (.ref 6)) 1 3245 (s1 w os) (piecesOf (((behindTheImports PySem.Challenge.pw_ik0023_01).drop 2).take 8) (envT PySem.Challenge.pw_ik0023_01) (codeT PySem.Challenge.pw_ik0023_01) ⟨3, 0, 3, 11⟩ [topFrame posQ])) = fun os => some (Flow.next, s9 w os, codeT PySem.Challenge.pw_ik0023_01, ⟨11, 9, 11, 74⟩)
set_option maxHeartbeats 0 in
theorem run_9_f : ∀ w : World, R9 (w.withFollow "special-get-raises" false) := by
  intro w
  unfold R9
  rw [PySem.W.Fast.te10110043849684766642, PySem.W.Fast.te14364793385576792824, PySem.W.Fast.te11757696177077540139]
  kernel_rfl
set_option maxHeartbeats 0 in
theorem run_9_t : ∀ w : World, R9 (w.withFollow "special-get-raises" true) := by
  intro w
  unfold R9
  rw [PySem.W.Fast.te10110043849684766642, PySem.W.Fast.te14364793385576792824, PySem.W.Fast.te11757696177077540139]
  kernel_rfl
theorem run_9 : ∀ w : World, R9 w := (byRow2 "special-get-raises" (P := fun w => R9 w) run_9_f run_9_t)
def R11 (w : World) : Prop := (fun os : OsState => segRunT treeTable PySem.Challenge.pw_ik0023_01 w 28 (some (.ref 6)) 1 4387 (s9 w os) (piecesOf ((((behindTheImports PySem.Challenge.pw_ik0023_01).drop 2).drop 8).take 2) (envT PySem.Challenge.pw_ik0023_01) (codeT PySem.Challenge.pw_ik0023_01) ⟨11, 9, 11, 74⟩ [topFrame posQ])) = fun os => some (Flow.next, s11 w os, codeT PySem.Challenge.pw_ik0023_01, ⟨14, 9, 14, 110⟩)
set_option maxHeartbeats 0 in
theorem run_11_f : ∀ w : World, R11 (w.withFollow "special-get-raises" false) := by
  intro w
  unfold R11
  rw [PySem.W.Fast.te10110043849684766642, PySem.W.Fast.te14364793385576792824, PySem.W.Fast.te11757696177077540139]
  kernel_rfl
set_option maxHeartbeats 0 in
theorem run_11_t : ∀ w : World, R11 (w.withFollow "special-get-raises" true) := by
  intro w
  unfold R11
  rw [PySem.W.Fast.te10110043849684766642, PySem.W.Fast.te14364793385576792824, PySem.W.Fast.te11757696177077540139]
  kernel_rfl
theorem run_11 : ∀ w : World, R11 w := (byRow2 "special-get-raises" (P := fun w => R11 w) run_11_f run_11_t)
def R30 (w : World) : Prop := (fun os : OsState => segRunT treeTable PySem.Challenge.pw_ik0023_01 w 28 (some (.ref 6)) 1 639 (s11 w os) (piecesOf (((((behindTheImports PySem.Challenge.pw_ik0023_01).drop 2).drop 8).drop 2).take 19) (envT PySem.Challenge.pw_ik0023_01) (codeT PySem.Challenge.pw_ik0023_01) ⟨14, 9, 14, 110⟩ [topFrame posQ])) = fun os => some (Flow.next, s30 w os, codeT PySem.Challenge.pw_ik0023_01, ⟨70, 0, 99, 15⟩)
set_option maxHeartbeats 0 in
theorem run_30_f : ∀ w : World, R30 (w.withFollow "special-get-raises" false) := by
  intro w
  unfold R30
  rw [PySem.W.Fast.te10110043849684766642, PySem.W.Fast.te14364793385576792824, PySem.W.Fast.te11757696177077540139]
  kernel_rfl
set_option maxHeartbeats 0 in
theorem run_30_t : ∀ w : World, R30 (w.withFollow "special-get-raises" true) := by
  intro w
  unfold R30
  rw [PySem.W.Fast.te10110043849684766642, PySem.W.Fast.te14364793385576792824, PySem.W.Fast.te11757696177077540139]
  kernel_rfl
theorem run_30 : ∀ w : World, R30 w := (byRow2 "special-get-raises" (P := fun w => R30 w) run_30_f run_30_t)
theorem fin_runs : ∀ w : World, (fun os : OsState => topRun treeTable PySem.Challenge.pw_ik0023_01 w 28 (some (.ref 6)) 2 (s30 w os).abs ⟨doneF .next, codeT PySem.Challenge.pw_ik0023_01, ⟨70, 0, 99, 15⟩, [topFrame posQ]⟩) = fun os => some ⟨h30 w.params, ⟨[]⟩, boot_drawn, 1975, os⟩ := by
  intro w
  rw [PySem.W.Fast.te14082659384304107361, PySem.W.Fast.te14364793385576792824, PySem.W.Fast.te11757696177077540139]
  kernel_rfl
theorem piece_take {tb : String → Option Builtin} {p : Program} {w : World} {n₀ : Nat} {ann : Option Value} {env : Env} {q : Pos} {n N k : Nat} {s s' r : Shared} {b : List Stmt} {c : Code} {pos p' : Pos} (h : segRun tb p w n₀ ann 1 n s (piecesOf (b.take k) env c pos [topFrame q]) = some (.next, s', c, p'))
    (g : topRun tb p w n₀ ann N s' (restOf (b.drop k) env c p' [topFrame q]) = some r) : topRun tb p w n₀ ann (n + N) s (restOf b env c pos [topFrame q]) = some r := by
  have := piece_app h g
  rwa [List.take_append_drop] at this
theorem rest_none : (((((behindTheImports PySem.Challenge.pw_ik0023_01).drop 2).drop 8).drop 2).drop 19) = [] := by
  rw [PySem.W.Fast.te11757696177077540139]
  kernel_rfl
theorem top_runs : ∀ (w : World) (os : OsState), topRun treeTable PySem.Challenge.pw_ik0023_01 w 28 (some (.ref 6)) (12 + (1 + (9680 + (3245 + (4387 + (639 + 2)))))) ⟨hS w.params, ⟨[]⟩, boot_drawn, 276, os⟩ (topStub PySem.Challenge.pw_ik0023_01) = some ⟨h30 w.params, ⟨[]⟩, boot_drawn, 1975, os⟩ := fun w os =>
  go_top (congrFun (pre_runs w) os) (piece_block (congrFun (block_runs w) os) (piece_take (segRun_of (congrFun (run_1 w) os)) (piece_take (segRun_of (congrFun (run_9 w) os)) (piece_take (segRun_of (congrFun (run_11 w) os)) (piece_take (segRun_of (congrFun (run_30 w) os)) (by rw [rest_none]; exact piece_nil (congrFun (fin_runs w) os)))))))
abbrev looseT : List PySem.Str := [PySem.Str.ofString "_twin_re_1", PySem.Str.ofString "_QUOPRI_MAP", PySem.Str.ofString "_QUOPRI_HEADER_MAP", PySem.Str.ofString "_QUOPRI_BODY_MAP", PySem.Str.ofString "ascii_letters", PySem.Str.ofString "header_encode", PySem.Str.ofString "_QUOPRI_BODY_ENCODE_MAP"]
abbrev lvT : List (PySem.Str × WData) := [(PySem.Str.ofString "ascii_letters", WData.str ⟨#[97, 98, 99, 100, 101, 102, 103, 104, 105, 106, 107, 108, 109, 110, 111, 112, 113, 114, 115, 116, 117, 118, 119, 120, 121, 122, 65, 66, 67, 68, 69, 70, 71, 72, 73, 74, 75, 76, 77, 78, 79, 80, 81, 82, 83, 84, 85, 86, 87, 88, 89, 90]⟩)]
abbrev adrT : List Addr := [2, 3, 6, 11, 12, 35, 36, 39, 44, 46, 53, 55, 56, 58, 59, 60, 62, 63, 65, 66, 67, 68, 70, 71, 73, 74, 76, 80, 82, 83, 85, 86, 87, 89, 90, 92, 93, 94, 96, 97, 99, 100, 101, 103, 104, 106, 107, 108, 110, 111, 113, 114, 115, 118, 119, 120, 123, 124, 125, 127, 128, 130, 131, 132, 134, 135, 137, 138, 139, 142, 143, 144, 147, 148]
noncomputable abbrev hookT : Hook := kHook Mine.hd.heap_39 adrT (fun _ => by kernel_rfl)
abbrev xtT (q : Program) : Shared → Bool := fun s => xlAt q lvT s && recOk (RowW.records PySem.Challenge.rw_ik0023_01.row.toRowW) s
theorem view_is : Mine.hd.view_39 = view PySem.Challenge.pw_ik0023_01 [0, 1, 2, 3, 4, 5, 6, 7, 8, 13, 14, 16, 19, 20, 22, 23, 24, 26, 27, 28, 29, 30, 31] := by kernel_rfl
theorem looks_a : ∀ w : World, (fun os : OsState => (staticsOk (importedModules PySem.Challenge.pw_ik0023_01.main.body) (hS w.params) (h30 w.params) && namesBound PySem.Challenge.pw_ik0023_01 (h30 w.params) && gensDone ⟨h30 w.params, ⟨[]⟩, boot_drawn, 1975, os⟩ && laidKept (hS w.params) (h30 w.params))) = fun _ => true := by
  intro w
  rw [PySem.W.Fast.te5923862056798008813, PySem.W.Fast.te11757696177077540139]
  kernel_rfl
theorem looks_c : ∀ w : World, (fun os : OsState => Hook.obs hookT ⟨h30 w.params, ⟨[]⟩, boot_drawn, 1975, os⟩) = fun _ => Hook.val hookT w := by
  intro w
  kernel_rfl
theorem looks_b : ∀ w : World, (fun os : OsState => openSeen Mine.hd.view_39 looseT (importedModules PySem.Challenge.pw_ik0023_01.main.body) (xtT Mine.hd.view_39) true ⟨h30 w.params, ⟨[]⟩, boot_drawn, 1975, os⟩) = fun _ => openGood Mine.hd.view_39 looseT := by
  intro w
  rw [view_is, PySem.W.Fast.te4187177175401517315, PySem.W.Fast.te5923862056798008813, PySem.W.Fast.te11757696177077540139]
  kernel_rfl
theorem left : LeftO PySem.Challenge.pw_ik0023_01 Mine.hd.view_39 looseT (xtT Mine.hd.view_39) (Hook.obs hookT) (Hook.val hookT) 35560 true :=
  LeftO.of_pieces (H₀ := hS) (H₁ := h30) (gs₀ := ⟨[]⟩) (gs₁ := ⟨[]⟩) (d₀ := boot_drawn) (d₁ := boot_drawn) (k₀ := 276) (k₁ := 1975) (m₀ := 28) (ann := some (.ref 6)) (M := (12 + (1 + (9680 + (3245 + (4387 + (639 + 2))))))) (open_cut opening_runs rfl fence_runs) size_is top_runs rfl
    (fun w => by
      funext os
      exact Prod.ext (congrFun (looks_a w) os) (Prod.ext (congrFun (looks_b w) os) (congrFun (looks_c w) os)))
end Mine
end
section
open PySem PySem.Builtin PySem.Builtin.Str PyProof.Rows
set_option autoImplicit false
namespace Mine
abbrev cpl (x : PySem.Str) : List Nat := x.cps.toList
theorem cpl_len (x : PySem.Str) : (cpl x).length = x.length := by simp [cpl, PySem.Str.length]
theorem blank_is : PySem.Str.ofString " " = ⟨#[32]⟩ := by decide +kernel
theorem under_is : PySem.Str.ofString "_" = ⟨#[95]⟩ := by decide +kernel
theorem under2_is : PySem.Str.ofString "__" = ⟨#[95, 95]⟩ := by decide +kernel
theorem blank2_is : PySem.Str.ofString "  " = ⟨#[32, 32]⟩ := by decide +kernel
theorem goes32 : (PySem.Str.ofString " ").cps.contains = fun c => c == 32 := by
  rw [blank_is]
  funext c
  show (#[32] : Array Nat).contains c = _
  rw [Bool.eq_iff_iff]
  simp
theorem str_eq {x y : PySem.Str} (h : cpl x = cpl y) : x = y := Str.ext' (Array.toList_inj.mp h)
theorem str_beq (x y : PySem.Str) : (x == y) = (cpl x == cpl y) := by
  rw [Bool.eq_iff_iff, beq_iff_eq, beq_iff_eq]
  exact ⟨fun h => by rw [h], str_eq⟩
theorem str_bne (x y : PySem.Str) : (x != y) = (cpl x != cpl y) := by
  show (!(x == y)) = (!(cpl x == cpl y))
  rw [str_beq]
theorem lead_is (x : PySem.Str) : (x.length : Int) - (Txt.lstripChars x (PySem.Str.ofString " ")).length = (lead 32 (cpl x) : Nat) := by
  unfold Txt.lstripChars
  rw [goes32, stripBy_eq]
  have h1 : stripLo (fun c => c == 32) true x = lead 32 (cpl x) := rfl
  have h2 : stripHi (fun c => c == 32) false x (stripLo (fun c => c == 32) true x) = x.length := rfl
  rw [h2, h1]
  have h3 : lead 32 (cpl x) ≤ x.length := by
    rw [← cpl_len]; exact takeWhile_len_le _ _
  have h4 : (strSub x (lead 32 (cpl x)) x.length).length = x.length - lead 32 (cpl x) := StrLaws.sub_len x _ _ (Nat.le_refl _)
  rw [h4]
  omega
theorem trail_is (x : PySem.Str) : (x.length : Int) - (Txt.rstripChars x (PySem.Str.ofString " ")).length = (trail 32 (cpl x) : Nat) := by
  unfold Txt.rstripChars
  rw [goes32, stripBy_eq]
  have h1 : stripLo (fun c => c == 32) false x = 0 := rfl
  rw [h1]
  have h2 : stripHi (fun c => c == 32) true x 0 = x.length - trail 32 (cpl x) := rfl
  have h3 : trail 32 (cpl x) ≤ x.length := by
    rw [← cpl_len, ← List.length_reverse (as := cpl x)]; exact takeWhile_len_le _ _
  rw [h2]
  have h4 : (strSub x 0 (x.length - trail 32 (cpl x))).length = x.length - trail 32 (cpl x) - 0 := StrLaws.sub_len x _ _ (by omega)
  rw [h4]
  omega
theorem getD_cpl (x : PySem.Str) (k : Nat) : x.cps.getD k 0 = (cpl x).getD k 0 := (getD_list x k).symm
theorem more_is (x : PySem.Str) : (Txt.stripChars x (PySem.Str.ofString " ") != PySem.Str.ofString "") = more 32 (cpl x) := by
  unfold Txt.stripChars
  rw [goes32, stripBy_eq, str_bne]
  have e0 : cpl (PySem.Str.ofString "") = [] := by decide +kernel
  rw [e0]
  obtain ⟨a1, a2, a3⟩ := lo_facts (fun c => c == 32) x
  obtain ⟨b1, b2, b3, b4⟩ := hi_facts (fun c => c == 32) x _ a1
  generalize hlo : stripLo (fun c => c == 32) true x = lo at *
  generalize hhi : stripHi (fun c => c == 32) true x lo = hi at *
  have hlen : (cpl (strSub x lo hi)).length = hi - lo := by
    rw [cpl_len]; exact StrLaws.sub_len x lo hi b2
  have hnil : (cpl (strSub x lo hi) != []) = decide (lo < hi) := by
    cases e : cpl (strSub x lo hi) with
    | nil =>
      rw [e] at hlen
      simp at hlen
      rw [decide_eq_false (by omega)]
      rfl
    | cons a r =>
      rw [e] at hlen
      simp at hlen
      rw [decide_eq_true (by omega)]
      rfl
  rw [hnil]
  cases hm : more 32 (cpl x) with
  | true =>
    refine decide_eq_true ?_
    have h1 : lead 32 (cpl x) < (cpl x).length := lead_lt hm
    have h2 : lo = lead 32 (cpl x) := hlo.symm
    rw [cpl_len, ← h2] at h1
    rcases a3 with h | h
    · omega
    · apply Nat.lt_of_not_le
      intro h3
      have := b3 lo (by omega) h1
      rw [h] at this
      cases this
  | false =>
    refine decide_eq_false ?_
    have hall : ∀ c ∈ cpl x, c = 32 := by
      intro c hc
      have := List.any_eq_false.mp hm c hc
      simpa using this
    rcases a3 with h | h
    · omega
    · by_cases h3 : lo < x.length
      · have h4 : (cpl x).getD lo 0 ∈ cpl x := by
          rw [List.getD_eq_getElem?_getD, List.getElem?_eq_getElem (by rw [cpl_len]; exact h3)]
          exact List.getElem_mem _
        rw [getD_cpl, hall _ h4] at h
        cases h
      · omega
theorem slice_eq (x : PySem.Str) (l u : Option Int) : Txt.slice x l u = StrLaws.sliceText x l u := rfl
theorem slice_to {x : PySem.Str} {j : Nat} : cpl (Txt.slice x none (some (j : Int))) = (cpl x).take j := by
  by_cases h : j ≤ x.length
  · rw [slice_eq, StrLaws.sliceText_to ⟨by omega, by show _ ≤ ((cpl x).length : Int); have := cpl_len x; omega⟩]
    simp [cpl]
  · have e : Txt.slice x none (some (j : Int)) = Txt.slice x none (some (x.length : Int)) := by
      unfold Txt.slice
      have e2 : strSliceIndices none (some (j : Int)) 1 x.length = strSliceIndices none (some (x.length : Int)) 1 x.length := by
        have a : ¬ ((j : Int) < 0) := by omega
        have b : ¬ ((x.length : Int) < 0) := by omega
        have c : min (j : Int) (x.length : Int) = x.length := by omega
        have d : min (x.length : Int) (x.length : Int) = x.length := by omega
        simp [strSliceIndices, a, b, c, d]
      rw [e2]
    rw [e, slice_eq, StrLaws.sliceText_to ⟨by omega, by show _ ≤ ((cpl x).length : Int); have := cpl_len x; omega⟩]
    have h2 := cpl_len x
    rw [List.take_of_length_le (by omega : (cpl x).length ≤ j)]
    simp only [cpl, List.drop_zero]
    rw [List.take_of_length_le (by have := cpl_len x; simp only [cpl] at this; omega)]
theorem slice_last2 {x : PySem.Str} (h : 2 ≤ x.length) : cpl (Txt.slice x (some (-2)) none) = ((cpl x).reverse.take 2).reverse := by
  rw [slice_eq, StrLaws.sliceText_from_neg (by omega) (by omega)]
  have h2 := cpl_len x
  have e1 : ((-2 : Int) + x.length).toNat = (cpl x).length - 2 := by omega
  have e2 : (((cpl x).length : Int) - (-2 + x.length)).toNat = 2 := by omega
  show List.take (((cpl x).length : Int) - (-2 + x.length)).toNat (List.drop ((-2 : Int) + x.length).toNat (cpl x)) = _
  rw [e1, e2, List.take_reverse, List.reverse_reverse]
  rw [List.take_of_length_le]
  rw [List.length_drop]; omega
theorem item_nn {x : PySem.Str} {i : Nat} (h : i < x.length) : Txt.item x (i : Int) = ⟨#[(cpl x).getD i 0]⟩ := by
  unfold Txt.item Txt.charAt
  rw [StrLaws.seqIndex_nonneg (by omega) (by omega)]
  congr 2
  simp [cpl]
theorem item_neg {x : PySem.Str} {i : Nat} (h : i < x.length) : Txt.item x (-((i : Int) + 1)) = ⟨#[(cpl x).reverse.getD i 0]⟩ := by
  unfold Txt.item Txt.charAt
  rw [StrLaws.seqIndex_neg (by omega) (by omega)]
  have e : (-((i : Int) + 1) + x.length).toNat = x.length - 1 - i := by omega
  rw [e]
  congr 2
  have hl := cpl_len x
  rw [List.getD_eq_getElem?_getD, List.getElem?_reverse (by omega), hl]
  simp [cpl]
theorem one_ne (c d : Nat) : ((⟨#[c]⟩ : PySem.Str) != ⟨#[d]⟩) = (c != d) := by
  rw [str_bne]
  show (!([c] == [d])) = !(c == d)
  simp
theorem one_eq (c d : Nat) : ((⟨#[c]⟩ : PySem.Str) == ⟨#[d]⟩) = (c == d) := by
  rw [str_beq]
  show ([c] == [d]) = _
  simp
def dunderT' (x : PySem.Str) : Bool := decide (4 < (x.length : Int)) && ((Txt.slice x none (some 2) == Txt.slice x (some (-2)) none) && (Txt.slice x (some (-2)) none == PySem.Str.ofString "__")) && (Txt.item x 2 != PySem.Str.ofString "_") && (Txt.item x (-3) != PySem.Str.ofString "_")
def sunderT' (x : PySem.Str) : Bool := decide (2 < (x.length : Int)) && ((Txt.item x 0 == Txt.item x (-1)) && (Txt.item x (-1) == PySem.Str.ofString "_")) && (Txt.item x 1 != PySem.Str.ofString "_") && (Txt.item x (-2) != PySem.Str.ofString "_")
theorem dunder_txt (x : PySem.Str) : dunderT' x = dunderL 95 (cpl x) := by
  unfold dunderT' dunderL
  have hl := cpl_len x
  by_cases h : 4 < x.length
  · have h1 : Txt.slice x none (some 2) = Txt.slice x none (some ((2 : Nat) : Int)) := rfl
    have h2 : Txt.item x 2 = ⟨#[(cpl x).getD 2 0]⟩ := item_nn (i := 2) (by omega)
    have h3 : Txt.item x (-3) = ⟨#[(cpl x).reverse.getD 2 0]⟩ := item_neg (i := 2) (by omega)
    rw [decide_eq_true (by omega : (4 : Int) < (x.length : Int)), decide_eq_true (by omega : 4 < (cpl x).length), h2, h3, under_is, one_ne, one_ne, str_beq, str_beq, slice_last2 (by omega), h1, slice_to, under2_is]
  · rw [decide_eq_false (by omega : ¬ (4 : Int) < (x.length : Int)), decide_eq_false (by omega : ¬ 4 < (cpl x).length)]
    rfl
theorem sunder_txt (x : PySem.Str) : sunderT' x = sunderL 95 (cpl x) := by
  unfold sunderT' sunderL
  have hl := cpl_len x
  by_cases h : 2 < x.length
  · have h1 : Txt.item x 0 = ⟨#[(cpl x).getD 0 0]⟩ := item_nn (i := 0) (by omega)
    have h2 : Txt.item x 1 = ⟨#[(cpl x).getD 1 0]⟩ := item_nn (i := 1) (by omega)
    have h3 : Txt.item x (-1) = ⟨#[(cpl x).reverse.getD 0 0]⟩ := item_neg (i := 0) (by omega)
    have h4 : Txt.item x (-2) = ⟨#[(cpl x).reverse.getD 1 0]⟩ := item_neg (i := 1) (by omega)
    rw [decide_eq_true (by omega : (2 : Int) < (x.length : Int)), decide_eq_true (by omega : 2 < (cpl x).length), h1, h2, h3, h4, under_is, one_ne, one_ne, one_eq, one_eq]
  · rw [decide_eq_false (by omega : ¬ (2 : Int) < (x.length : Int)), decide_eq_false (by omega : ¬ 2 < (cpl x).length)]
    rfl
theorem starts_is (x y : PySem.Str) : Txt.startswith x y = (cpl y).isPrefixOf (cpl x) := by
  unfold Txt.startswith
  rw [StrLaws.subAt_eq, List.drop_zero, Bool.eq_iff_iff, Bool.and_eq_true, beq_iff_eq, decide_eq_true_eq, List.isPrefixOf_iff_prefix]
  have hx := cpl_len x
  have hy := cpl_len y
  constructor
  · rintro ⟨_, h⟩
    have h3 : (cpl x).take y.length = cpl y := h
    rw [← h3]
    exact List.take_prefix _ _
  · intro h
    have h2 := h.length_le
    refine ⟨by omega, ?_⟩
    have := List.prefix_iff_eq_take.mp h
    rw [hy] at this
    exact this.symm
theorem priv_txt (x pv : PySem.Str) (h2 : 2 ≤ pv.length) : (decide (pv.length < x.length) && Txt.startswith x pv && ((Txt.item x (-1) != PySem.Str.ofString "_") || (Txt.item x (-2) != PySem.Str.ofString "_"))) = privL 95 (cpl pv) (cpl x) := by
  unfold privL
  have hx := cpl_len x
  have hy := cpl_len pv
  by_cases h : pv.length < x.length
  · have h3 : Txt.item x (-1) = ⟨#[(cpl x).reverse.getD 0 0]⟩ := item_neg (i := 0) (by omega)
    have h4 : Txt.item x (-2) = ⟨#[(cpl x).reverse.getD 1 0]⟩ := item_neg (i := 1) (by omega)
    rw [h3, h4, under_is, one_ne, one_ne, starts_is, hx, hy]
  · rw [decide_eq_false h, hx, hy, decide_eq_false h]
    rfl
def swap (c d : Nat) (k : Nat) : Nat := if k = c then d else k
theorem swap_free {c d : Nat} {l : List Nat} (h : c ∉ l) : l.map (swap c d) = l := by
  conv => rhs; rw [← List.map_id l]
  refine List.map_congr_left fun k hk => ?_
  have : k ≠ c := fun e => h (e ▸ hk)
  simp [swap, this]
theorem join_swap (c d : Nat) : ∀ parts : List PySem.Str, (∀ p ∈ parts, c ∉ cpl p) → (cpl (PySem.Str.join ⟨#[c]⟩ parts)).map (swap c d) = cpl (PySem.Str.join ⟨#[d]⟩ parts)
  | [], _ => rfl
  | [p], h => by
    exact swap_free (h p (.head _))
  | p :: q :: r, h => by
    have ih := join_swap c d (q :: r) fun a ha => h a (List.mem_cons_of_mem _ ha)
    have h0' : (cpl p).map (swap c d) = cpl p := swap_free (h p (.head _))
    show (cpl (p ++ ⟨#[c]⟩ ++ PySem.Str.join ⟨#[c]⟩ (q :: r))).map (swap c d) = cpl (p ++ ⟨#[d]⟩ ++ PySem.Str.join ⟨#[d]⟩ (q :: r))
    simp only [cpl, Str.cps_append, Array.toList_append, List.map_append] at ih h0' ⊢
    rw [ih, h0']
    congr 2
    simp [swap]
theorem replace_swap (x : PySem.Str) (c d : Nat) : cpl (Txt.replace x ⟨#[c]⟩ ⟨#[d]⟩) = (cpl x).map (swap c d) := by
  rw [StrLaws.replace_one, ← join_swap c d _ (StrLaws.split_free x c), StrLaws.join_split]
/-- between a front and a back of two signs -/
theorem slice_mid {a b c : PySem.Str} (hc : c.length = 2) : Txt.slice (a ++ b ++ c) (some (a.length : Int)) (some (-2)) = b := by
  have hl : (a ++ b ++ c).length = a.length + b.length + 2 := by rw [Str.length_append, Str.length_append, hc]
  rw [slice_eq, StrLaws.sliceText_neg_hi _ _ (by omega) (by omega)]
  have hl2 := cpl_len (a ++ b ++ c)
  have ha := cpl_len a
  have hb := cpl_len b
  rw [StrLaws.sliceText_plain ⟨by omega, by omega, by show _ ≤ ((cpl (a ++ b ++ c)).length : Int); omega⟩]
  apply str_eq
  show List.take _ (List.drop _ (cpl (a ++ b ++ c))) = _
  have e1 : (a.length : Int).toNat = (cpl a).length := by omega
  have e2 : (-2 + ((a ++ b ++ c).length : Int) - (a.length : Int)).toNat = (cpl b).length := by omega
  rw [e1, e2]
  simp only [cpl, Str.cps_append, Array.toList_append]
  rw [List.append_assoc, List.drop_left, List.take_left]
theorem slice_nil (l u : Option Int) : Txt.slice (PySem.Str.ofString "") l u = PySem.Str.ofString "" := by
  have h := Txt.slice_le (PySem.Str.ofString "") l u
  have e : (PySem.Str.ofString "").length = 0 := by decide +kernel
  have e0 : cpl (PySem.Str.ofString "") = [] := by decide +kernel
  apply str_eq
  rw [e0]
  have := cpl_len (Txt.slice (PySem.Str.ofString "") l u)
  exact List.eq_nil_of_length_eq_zero (by omega)
end Mine
end
section
open PySem PySem.W PyProof.Rows PySem.Calls
set_option autoImplicit false
namespace Mine
local macro_rules | `(tactic| walk_at "call type:int") => `(tactic| (refine call_int16 (by assumption) (by assumption) ?_; intro _ _))
set_option maxRecDepth 100000 in
set_option maxHeartbeats 8000000 in
theorem unquote_tells : ∀ (w : World) (c : Nat) (_ : c < 256) (x : PySem.Str) (_ : Txt.slice x (some 1) (some 3) = ⟨#[hx (c / 16), hx (c % 16)]⟩) (_ : x.length = 3) (tk : Tok) (p : Program) (loose : List PySem.Str) (mean : ExcName → Option Value) (mg mb : PySem.Str → Option Value) (dp un : Nat) (gd : Option (List Code)) (cn : PySem.Str) (cs : Scope) (a : Addr) (ccd : Value) (cl : List (PySem.Str × Addr)) (outer : List Env) (A₀ : Around) (base h₀ : Heap) (L : Addr) (m : PySem.Str → Option Value) (news : List (Addr × Obj)) (s : Shared)
    (Q E : Value → Shared → Prop) (_ : Below A₀ base outer h₀) (_ : Fr h₀ L s.heap m) (_ : (hd.heap_39 w.params).In h₀) (_ : News h₀ L s.heap (news)) (_ : Top p loose mean mg mb h₀) (_ : cs.kind = .function) (_ : dp + 4 < recursionLimit) (_ : un + 40 < cLine)
    (_ : ∀ (t' : Tok) (h' : Heap) (tk' : Nat), Fr h₀ L h' m → News h₀ L h' news → Q (.str ⟨#[c]⟩ t') { s with heap := h', toks := tk' }),
    wpAny (model PySem.Challenge.rw_ik0023_01.row.prog w) (ktrTop dp un gd cn cs L a ccd cl outer) (call (.ref 66) [.str x tk]) Q E s := by
  w_top off
  k_fill
  intros
  rename_i hret
  refine wpAny_call ?_
  k_dflt ktr_enter
  k_steps
  all_goals exact hret _ _ _ (by assumption) (by assumption)
theorem slice_esc (a b : Nat) : Txt.slice ⟨#[61, a, b]⟩ (some 1) (some 3) = ⟨#[a, b]⟩ := by kernel_rfl
end Mine
end
section
open PySem PySem.W PyProof.Rows PySem.Calls
set_option autoImplicit false
namespace Mine

section
variable {prog : Program} {w : World} {A : Around} {E : Value → Shared → Prop} {s : Shared} {h₀ : Heap} {L : Addr} {news : List (Addr × Obj)}
theorem method_group {P : Value} {x : PySem.Str} {t : Tok} {n : Nat} {M T : Addr} {pl : Sem Bool} {Q : Value × List Value → Shared → Prop} (N : News h₀ L s.heap news) (hm : (M, matchObj P x t n T) ∈ news)
    (h : Q (.builtin "re.Match.group", [.ref M]) s) : wpAny (model prog w) A (getMethod (.ref M) "group" pl) Q E s := by
  have hM := (N _ hm).1
  exact getMethod_builtin ⟨_, hM, rfl⟩ plainAttrs_match slot_group type_group (fun a e => by cases e; exact ⟨_, hM, rfl⟩) h
theorem call_group {P : Value} {x : PySem.Str} {t u : Tok} {n b e k : Nat} {M T : Addr} {Q : Value → Shared → Prop} (N : News h₀ L s.heap news) (hm : (M, matchObj P x t n T) ∈ news) (ht : (T, spanObj b e k) ∈ news)
    (hsz : x.length ≤ 1000) (h : ∀ t' tk, Q (.str ⟨x.cps.extract b e⟩ t') { s with toks := tk }) : wpAny (model prog w) A (call (.builtin "re.Match.group") [.ref M, .int 0 u]) Q E s :=
  wp_group (N _ hm).1 (N _ ht).1 hsz h
end
local macro_rules | `(tactic| walk_at "getMethod ref") => `(tactic| (refine method_group (by assumption) (by k_mem) ?_))
local macro_rules | `(tactic| walk_at "call builtin:re.Match.group") => `(tactic| (refine call_group (by assumption) (by k_mem) (by k_mem) (by assumption) ?_; intro _ _))
local macro_rules | `(tactic| walk_at "call ref") => `(tactic| (refine unquote_tells _ _ (by assumption) _ (by assumption) (by assumption) _ _ _ _ _ _ _ _ _ _ _ _ _ _ _ _ _ _ _ _ _ _ _ _ (by k_asm) (by k_asm) (by k_asm) (by k_asm) (by k_asm) (by first | exact rfl | assumption) (by ktr_room) (by ktr_units) ?_; intro _ _ _ _ _))
set_option maxRecDepth 100000 in
set_option maxHeartbeats 8000000 in
theorem match_tells : ∀ (w : World) (c : Nat) (_ : c < 256) (x : PySem.Str) (_ : x.length ≤ 1000) (b e : Nat) (_ : Txt.slice ⟨x.cps.extract b e⟩ (some 1) (some 3) = ⟨#[hx (c / 16), hx (c % 16)]⟩) (_ : PySem.Str.length ⟨x.cps.extract b e⟩ = 3) (P : Value) (tk : Tok) (n k : Nat) (M T : Addr) (p : Program) (loose : List PySem.Str) (mean : ExcName → Option Value) (mg mb : PySem.Str → Option Value) (dp un : Nat) (gd : Option (List Code)) (cn : PySem.Str) (cs : Scope) (a : Addr) (ccd : Value) (cl : List (PySem.Str × Addr)) (outer : List Env) (A₀ : Around) (base h₀ : Heap) (L : Addr) (m : PySem.Str → Option Value) (news : List (Addr × Obj)) (s : Shared)
    (Q E : Value → Shared → Prop) (_ : Below A₀ base outer h₀) (_ : Fr h₀ L s.heap m) (_ : (hd.heap_39 w.params).In h₀) (_ : News h₀ L s.heap ((M, matchObj P x tk n T) :: (T, spanObj b e k) :: news)) (_ : Top p loose mean mg mb h₀) (_ : cs.kind = .function) (_ : dp + 8 < recursionLimit) (_ : un + 80 < cLine)
    (_ : ∀ (t' : Tok) (h' : Heap) (tk' : Nat), Fr h₀ L h' m → News h₀ L h' ((M, matchObj P x tk n T) :: (T, spanObj b e k) :: news) → Q (.str ⟨#[c]⟩ t') { s with heap := h', toks := tk' }),
    wpAny (model PySem.Challenge.rw_ik0023_01.row.prog w) (ktrTop dp un gd cn cs L a ccd cl outer) (call (.ref 86) [.ref M]) Q E s := by
  w_top off
  k_fill
  intros
  rename_i hret
  refine wpAny_call ?_
  k_dflt ktr_enter
  k_steps
  all_goals first | exact hret _ _ _ (by assumption) (by assumption) | trace_state
end Mine
end
section
open PySem PySem.W PyProof.Rows PySem.Calls
set_option autoImplicit false
set_option maxRecDepth 100000
namespace Mine
def safe (c : Nat) : Bool := (65 ≤ c && c ≤ 90) || (97 ≤ c && c ≤ 122) || (48 ≤ c && c ≤ 57) || c == 45 || c == 33 || c == 42 || c == 43 || c == 47
def esc (c : Nat) : Bool := !(c == 32 || safe c)
def dunit (c : Nat) : List Nat := if esc c then [61, hx (c / 16), hx (c % 16)] else [c]
def dec (T : List Nat) : List Nat := T.flatMap dunit
theorem dec_append (a b : List Nat) : dec (a ++ b) = dec a ++ dec b := by simp [dec]
theorem dec_plain : ∀ {l : List Nat}, (∀ c ∈ l, esc c = false) → dec l = l := by
  intro l
  induction l with
  | nil => intro _; rfl
  | cons a l ih =>
    intro h
    have h1 := h a (.head _)
    show dunit a ++ dec l = _
    rw [ih fun c hc => h c (.tail _ hc)]
    simp [dunit, h1]
theorem dec_esc {c : Nat} (h : esc c = true) (l : List Nat) : dec (c :: l) = 61 :: hx (c / 16) :: hx (c % 16) :: dec l := by
  show dunit c ++ dec l = _
  simp [dunit, h]
theorem plain_ne {c : Nat} (h : esc c = false) : c ≠ 61 := by
  intro e; subst e; exact absurd h (by decide)
theorem hexc_hx {n : Nat} (h : n < 16) : hexc (hx n) = true := by
  have : ∀ n, n < 16 → hexc (hx n) = true := by decide +kernel
  exact this n h
theorem split_esc : ∀ l : List Nat, (∀ c ∈ l, esc c = false) ∨ ∃ P c r, l = P ++ c :: r ∧ (∀ c ∈ P, esc c = false) ∧ esc c = true := by
  intro l
  induction l with
  | nil => exact .inl fun _ h => nomatch h
  | cons a l ih =>
    by_cases ha : esc a = true
    · exact .inr ⟨[], a, l, rfl, fun _ h => (nomatch h), ha⟩
    · have ha' : esc a = false := by simpa using ha
      rcases ih with h | ⟨P, c, r, e, h1, h2⟩
      · refine .inl fun c hc => ?_
        rcases List.mem_cons.mp hc with rfl | hc
        · exact ha'
        · exact h c hc
      · refine .inr ⟨a :: P, c, r, by rw [e]; rfl, fun x hx' => ?_, h2⟩
        rcases List.mem_cons.mp hx' with rfl | hc
        · exact ha'
        · exact h1 x hc
theorem dec_len (l : List Nat) : l.length ≤ (dec l).length := by
  induction l with
  | nil => exact Nat.le_refl _
  | cons a l ih =>
    show _ ≤ (dunit a ++ dec l).length
    rw [List.length_append, List.length_cons]
    have : 1 ≤ (dunit a).length := by unfold dunit; split <;> simp
    omega

abbrev patObj (C : Addr) : Obj := { cls := .type "re.Pattern", data := .fields #[.str (Str.ofString "=[a-fA-F0-9]{2}") 283, .int 256 315, .int 0 0, .none, .none, .ref C, .int 0 0] }
abbrev codeObj' : Obj := { cls := .type "tuple", data := .seq #[.int 14 0, .int 8 0, .int 1 0, .int 3 0, .int 3 0, .int 1 0, .int 1 0, .int 61 0, .int 0 0, .int 16 0, .int 61 0, .int 24 0, .int 16 0, .int 2 0, .int 2 0, .int 13 0, .int 11 0, .int 9 0, .int 0 0, .int 67043328 0, .int 126 0, .int 126 0, .int 0 0, .int 0 0, .int 0 0, .int 0 0, .int 0 0, .int 1 0, .int 1 0] }
section
variable {M : Model} {A : Around} {E : Value → Shared → Prop} {s : Shared} {h₀ : Heap} {L : Addr} {m : PySem.Str → Option Value} {news : List (Addr × Obj)}
open PySem.Builtin PySem.Builtin.Re
theorem look_pat (w : World) : (hd.heap_39 w.params).lookup 36 = some (patObj 35) := by kernel_rfl
theorem look_code (w : World) : (hd.heap_39 w.params).lookup 35 = some codeObj' := by kernel_rfl
theorem wp_target {P C : Addr} {t : Tok} {y : PySem.Str} {Q : ReTarget → Shared → Prop} (hP : s.heap.get? P = some (patObj C)) (hC : s.heap.get? C = some codeObj')
    (h : Q { pattern := .ref P, string := .str y t, code := code, text := y.cps, kind := 0, groups := 0, pos := 0, lim := y.cps.size } s) : wpAny M A (reWholeTarget (.ref P) (.str y t)) Q E s := by
  unfold reWholeTarget
  refine wpAny_bind (wpAny_fieldsOf hP rfl ?_)
  refine wpAny_bind (wpAny_of_eq (a := (y.cps, 0)) (by kernel_rfl) ?_)
  dsimp only
  rw [if_neg (by with_unfolding_all exact Bool.false_ne_true), if_neg (by with_unfolding_all exact Bool.false_ne_true)]
  refine wpAny_bind (wpAny_of_eq (a := ()) (by kernel_rfl) ?_)
  refine wpAny_bind ?_
  unfold reRawItems
  refine wpAny_bind (wpAny_seqItems (a := C) hC rfl ?_)
  refine wpAny_pure (wpAny_pure ?_)
  refine Eq.mpr (congrArg (fun X => Q X s) ?_) h
  kernel_rfl
theorem wp_push {D : Addr} {its : Array Value} {n : Nat} {x : Value} {Q : Unit → Shared → Prop} (F : Fr h₀ L s.heap m) (N : News h₀ L s.heap ((D, listOf its n) :: news)) (hD : ∀ p ∈ news, p.1 ≠ D) (hsz : its.size ≤ 1000)
    (h : ∀ h', Fr h₀ L h' m → News h₀ L h' ((D, listOf (its.push x) (n + 1)) :: news) → Q () { s with heap := h' }) : wpAny M A (updateSeq D fun y => y.push x) Q E s := by
  have z := N _ (.head _)
  refine wpAny_updateSeq z.1 rfl (h _ (F.change (Heap.SameBut.update ..) z.2.1 z.2.2) ?_) (by rw [sizeLine_eq]; omega) (by rw [Array.size_push, sizeLine_eq]; omega)
  refine N.setHead hD (Heap.SameBut.update ..) ?_
  rw [Heap.get?_update_self _ z.1 (by rw [mapSeq_push]; rfl), mapSeq_push]
theorem wp_newMatch {P : Addr} {y : PySem.Str} {t : Tok} {lim : Nat} {mm : Sre.M} {Q : Value → Shared → Prop} (F : Fr h₀ L s.heap m) (N : News h₀ L s.heap news) (hm : mm.marks = #[]) (hl : mm.lastmark = -1) (hi : mm.lastindex = -1)
    (h : ∀ Ma T h', Fr h₀ L h' m → News h₀ L h' ((Ma, matchObj (.ref P) y t lim T) :: (T, spanObj mm.start mm.handed 0) :: news) → Q (.ref Ma) { s with heap := h' }) :
    wpAny M A (reNewMatch (.ref P) (.str y t) 0 0 lim mm) Q E s := by
  unfold reNewMatch
  dsimp only
  rw [if_neg (by simp)]
  refine wpAny_bind (newTuple_N F N (fun h1 F1 N1 => ?_) (by with_unfolding_all exact Nat.le_of_ble_eq_true rfl))
  rw [hi]
  refine wpAny_newObj_type ?_ (by with_unfolding_all exact Nat.le_of_ble_eq_true rfl)
  exact h _ _ _ (F1.push _) (N1.push F1 _)
end
end Mine
end
section
open PySem PySem.W PyProof.Rows PySem.Calls
set_option autoImplicit false
set_option maxRecDepth 100000
namespace Mine
theorem str_of_list {x : PySem.Str} {l : List Nat} (h : x.cps.toList = l) : x = ⟨l.toArray⟩ := by
  obtain ⟨⟨a⟩⟩ := x; exact congrArg (fun l => (⟨⟨l⟩⟩ : PySem.Str)) h
theorem cut_mid {y : Array Nat} {a b c : List Nat} (h : y.toList = a ++ b ++ c) : y.extract a.length (a.length + b.length) = b.toArray := by
  obtain ⟨y⟩ := y
  have h' : y = a ++ b ++ c := h
  subst h'
  simp
theorem at_mid {y : Array Nat} {a c : List Nat} {b : Nat} (h : y.toList = a ++ b :: c) : y.getD a.length 0 = b := by
  obtain ⟨y⟩ := y
  have h' : y = a ++ b :: c := h
  subst h'
  simp [Array.getD]
theorem at_plus {y : Array Nat} {a b c : List Nat} {i : Nat} (h : y.toList = a ++ b ++ c) (hi : i < b.length) : y.getD (a.length + i) 0 = b.getD i 0 := by
  obtain ⟨y⟩ := y
  have h' : y = a ++ b ++ c := h
  subst h'
  simp [Array.getD, hi]
  intro hh
  omega

def tot (l : List (PySem.Str × Tok)) : List Nat := l.flatMap fun p => p.1.cps.toList
theorem tot_snoc (l : List (PySem.Str × Tok)) (x : PySem.Str) (t : Tok) : tot (l ++ [(x, t)]) = tot l ++ x.cps.toList := by simp [tot]
theorem vals_snoc (l : List (PySem.Str × Tok)) (x : PySem.Str) (t : Tok) : (strValues l).toArray.push (.str x t) = (strValues (l ++ [(x, t)])).toArray := by simp [strValues]
theorem vals_size (l : List (PySem.Str × Tok)) : (strValues l).toArray.size = l.length := by simp [strValues]
theorem join_tot (l : List (PySem.Str × Tok)) : Txt.join ⟨#[]⟩ (l.map (·.1)) = ⟨(tot l).toArray⟩ := by
  show Builtin.Str.glued _ _ = _
  rw [StrLaws.glued_eq_join]
  induction l with
  | nil => rfl
  | cons a r ih =>
    cases r with
    | nil => simp [tot, PySem.Str.join]
    | cons b r =>
      show a.1 ++ (⟨#[]⟩ : PySem.Str) ++ PySem.Str.join ⟨#[]⟩ ((b :: r).map (·.1)) = _
      rw [ih]
      apply Str.ext'
      simp [tot, Str.cps_append]
theorem joinOk_tot (l : List (PySem.Str × Tok)) (h : (tot l).length ≤ 1000) : JoinOk ⟨#[]⟩ (l.map (·.1)) = true := by
  unfold JoinOk
  have e : (l.map (·.1)).toArray.foldl (fun a (p : PySem.Str) => a + p.length + (⟨#[]⟩ : PySem.Str).length) 0 = (tot l).length := by
    rw [StrLaws.joinTotal]
    have : ((l.map (·.1)).map (·.length)).sum = (tot l).length := by
      unfold tot
      rw [List.length_flatMap, List.map_map]
      rfl
    rw [this]
    simp [PySem.Str.length]
  rw [e]
  unfold Builtin.Str.tooLong
  rw [sizeLine_eq]
  simp
  omega

section
variable {M : Model} {A : Around} {E : Value → Shared → Prop} {s : Shared} {h₀ : Heap} {L : Addr} {m : PySem.Str → Option Value} {news : List (Addr × Obj)}
open PySem.Builtin PySem.Builtin.Re
theorem wp_maybe {y : PySem.Str} {D : Addr} {l : List (PySem.Str × Tok)} {nn : Nat} {a b c : List Nat} {K : Unit → Sem Fin} {Q : Fin → Shared → Prop} (F : Fr h₀ L s.heap m) (N : News h₀ L s.heap ((D, listOf (strValues l).toArray nn) :: news)) (hD : ∀ p ∈ news, p.1 ≠ D)
    (hy : y.cps.toList = a ++ b ++ c) (hys : y.length ≤ 1000) (hl : l.length ≤ 900)
    (h : ∀ h' tk l' nn', Fr h₀ L h' m → News h₀ L h' ((D, listOf (strValues l').toArray nn') :: news) → tot l' = tot l ++ b → l'.length ≤ l.length + 1 → wpAny M A (K ()) Q E { s with heap := h', toks := tk }) :
    wpAny M A (if ((a.length : Int)).toNat < a.length + b.length then (do
        let v ← reSlice y.cps 0 ((a.length : Int)).toNat (a.length + b.length)
        let r ← updateSeq D fun z => z.push v
        K r) else K ()) Q E s := by
  rw [Int.toNat_natCast]
  by_cases hb : a.length < a.length + b.length
  · rw [if_pos hb]
    refine wpAny_bind ?_
    show wpAny _ _ (mkStr ⟨y.cps.extract a.length (a.length + b.length)⟩) _ _ _
    rw [cut_mid hy]
    have hbl : b.length ≤ 1000 := by
      have : y.cps.toList.length ≤ 1000 := by simpa [Str.length] using hys
      rw [hy, List.length_append, List.length_append] at this; omega
    refine wpAny_mkStr ?_ (by show b.toArray.size ≤ _; rw [sizeLine_eq, List.size_toArray]; omega)
    refine wpAny_bind (wp_push F N hD (by rw [vals_size]; omega) fun h' F' N' => ?_)
    rw [vals_snoc] at N'
    refine h h' _ _ _ F' N' ?_ ?_
    · rw [tot_snoc]
    · simp
  · rw [if_neg hb]
    have hb0 : b = [] := by
      cases b with
      | nil => rfl
      | cons x r => exact absurd (by simp) hb
    subst hb0
    exact h s.heap s.toks l nn F N (by simp) (Nat.le_succ _)
end
end Mine
end
section
open PySem PySem.W PyProof.Rows PySem.Calls
set_option autoImplicit false
set_option maxRecDepth 100000
namespace Mine
open PySem.Builtin PySem.Builtin.Re
theorem loop_unf {y : PySem.Str} {t k1 : Tok} {nI : Int} {d : Nat} {must : Bool} {D : Addr} : «re.Pattern.sub.loop» ⟨[.ref 36, .str y t, .ref 86, rawInt 1, rawInt 0, .int nI k1, rawInt (d : Int), rawInt (d : Int), .bool must, .ref D, .bool false], []⟩ = (do
    let t' ← reWholeTarget (.ref 36) (.str y t)
    match ← reNextFound t' (d : Int).toNat must with
    | some m =>
      let K : Unit → Sem Fin := fun _ => (do
        let found ← reNewMatch (.ref 36) (.str y t) t'.groups 0 t'.lim m
        let item ← holding [found] (call (.ref 86) [found])
        let K2 : Unit → Sem Fin := fun _ => again (.builtin "re.Pattern.sub.loop" ⟨[.ref 36, .str y t, .ref 86, rawInt 1, rawInt 0, rawInt (nI + 1), rawInt m.handed, rawInt m.handed, .bool (m.handed == m.start), .ref D, .bool false], []⟩)
        if (item != Value.none) = true then (do let r ← updateSeq D fun x => x.push item; K2 r) else K2 ())
      if (d : Int).toNat < m.start then (do
        let v ← reSlice t'.text t'.kind (d : Int).toNat m.start
        let r ← updateSeq D fun x => x.push v
        K r) else K ()
    | none =>
      let K : Unit → Sem Fin := fun _ => (do
        let joiner ← reSlice t'.text t'.kind 0 0
        let items ← seqItems? (.ref D)
        if (items.getD #[]).isEmpty = true then ret joiner
        else do
          let text ← call (.builtin (if (t'.kind == 0) = true then "str.join" else "bytes.join")) [joiner, .ref D]
          ret text)
      if (d : Int).toNat < t'.lim then (do
        let v ← reSlice t'.text t'.kind (d : Int).toNat t'.lim
        let r ← updateSeq D fun x => x.push v
        K r) else K () : Sem Fin) := by kernel_rfl
end Mine
end
section
open PySem PySem.W PyProof.Rows PySem.Calls
set_option autoImplicit false
set_option maxRecDepth 100000
namespace Mine
open PySem.Builtin PySem.Builtin.Re
theorem sub_loop (w : World) (p : Program) (loose : List PySem.Str) (mean : ExcName → Option Value) (mg mb : PySem.Str → Option Value) (dp un : Nat) (gd : Option (List Code)) (cn : PySem.Str) (cs : Scope) (a : Addr) (ccd : Value) (cl : List (PySem.Str × Addr)) (outer : List Env) (A₀ : Around) (base h₀ : Heap) (L : Addr) (m : PySem.Str → Option Value) (news : List (Addr × Obj))
    (B : Below A₀ base outer h₀) (X : (hd.heap_39 w.params).In h₀) (T : Top p loose mean mg mb h₀) (hk : cs.kind = .function) (hroom : dp + 8 < recursionLimit) (hun : un + 90 < cLine)
    (y : PySem.Str) (t : Tok) (hys : y.length ≤ 200) (D : Addr) (hD : ∀ p ∈ news, p.1 ≠ D) (R : Result → Shared → Prop) :
    ∀ (k : Nat) (T1 T2 : List Nat) (l : List (PySem.Str × Tok)) (nn : Nat) (nI : Int) (k1 : Tok) (must : Bool) (s : Shared), T2.length ≤ k → (∀ c ∈ T2, c < 256) → y.cps.toList = dec (T1 ++ T2) →
      Fr h₀ L s.heap m → News h₀ L s.heap ((D, listOf (strValues l).toArray nn) :: news) → tot l = T1 → l.length ≤ 2 * T1.length →
      (∀ (t' : Tok) (h' : Heap) (tk' : Nat), Fr h₀ L h' m → News h₀ L h' news → R (.ok (.ret (.str ⟨(T1 ++ T2).toArray⟩ t'))) { s with heap := h', toks := tk' }) →
      codeAny (model PySem.Challenge.rw_ik0023_01.row.prog w) (ktrTop dp un gd cn cs L a ccd cl outer) (.builtin "re.Pattern.sub.loop" ⟨[.ref 36, .str y t, .ref 86, rawInt 1, rawInt 0, .int nI k1, rawInt ((dec T1).length : Int), rawInt ((dec T1).length : Int), .bool must, .ref D, .bool false], []⟩) R s := by
  intro k
  induction k using Nat.strongRecOn with
  | ind k ih =>
    intro T1 T2 l nn nI k1 must s hk2 hoct hy F N ht hl hR
    have hyl : y.cps.toList.length ≤ 200 := by simpa [Str.length] using hys
    have hT1 : T1.length ≤ 200 := by
      have := dec_len T1
      rw [hy, dec_append, List.length_append] at hyl
      omega
    refine codeAny_builtin entry_loop ?_
    rw [Around.under_plainId plain_loop _, loop_unf]
    refine wpAny_bind (wp_target (F.keep _ _ (X _ _ (look_pat w))) (F.keep _ _ (X _ _ (look_code w))) ?_)
    unfold reNextFound
    dsimp only
    rw [Int.toNat_natCast]
    have hyz : y.cps.size ≤ 2 ^ 60 := by
      have : y.cps.size = y.cps.toList.length := by simp
      omega
    rcases split_esc T2 with hpl | ⟨P, c, r, e2, hP, hc⟩
    · -- no sign is written by figures
      have hy2 : y.cps.toList = dec T1 ++ T2 ++ [] := by rw [hy, dec_append, dec_plain hpl, List.append_nil]
      have hlen : y.cps.size = (dec T1).length + T2.length := by
        have : y.cps.size = y.cps.toList.length := by simp
        rw [this, hy2]; simp
      refine wpAny_bind (wp_search_none hyz (by omega) (fun i h1 h2 => ?_) ?_)
      · obtain ⟨j, rfl⟩ := Nat.exists_eq_add_of_le h1
        have hj : j < T2.length := by omega
        rw [at_plus hy2 hj]
        have : T2.getD j 0 ∈ T2 := by
          rw [List.getD_eq_getElem?_getD, List.getElem?_eq_getElem hj]
          exact List.getElem_mem hj
        exact plain_ne (hpl _ this)
      · dsimp only
        rw [hlen]
        have hmb := fun (K : Unit → Sem Fin) (Q : Fin → Shared → Prop) (E : Value → Shared → Prop) h => wp_maybe (M := model PySem.Challenge.rw_ik0023_01.row.prog w) (A := (ktrTop dp un gd cn cs L a ccd cl outer).in1) (E := E) (K := K) (Q := Q) F N hD hy2 (by omega) (by omega) h
        rw [Int.toNat_natCast] at hmb
        refine hmb _ _ _ ?_
        intro h' tk l' nn' F' N' ht' hl'
        refine wpAny_bind ?_
        show wpAny _ _ (mkStr ⟨y.cps.extract 0 0⟩) _ _ _
        have e0 : y.cps.extract 0 0 = #[] := by simp
        rw [e0]
        refine wpAny_mkStr ?_ (by show 0 ≤ _; exact Nat.zero_le _)
        refine wpAny_bind (wpAny_seqItems (N' _ (.head _)).1 rfl ?_)
        have NN : News h₀ L h' news := fun q hq => N' q (.tail _ hq)
        have htot : tot l' = T1 ++ T2 := by rw [ht', ht]
        cases l' with
        | nil =>
          rw [if_pos (by rfl)]
          have : T1 ++ T2 = [] := by rw [← htot]; rfl
          rw [this] at hR
          exact wpAny_pure (hR _ _ _ F' NN)
        | cons q r =>
          rw [if_neg (by intro e; exact absurd e (by simp [strValues]))]
          rw [if_pos (by rfl)]
          refine wpAny_bind (SC.join (l := q :: r) (texts := (q :: r).map (·.1)) (News.isList N' (.head _)) rfl (joinOk_tot _ ?_) fun t' k' => ?_)
          · rw [htot]
            have := dec_len (T1 ++ T2)
            rw [← hy] at this
            omega
          · rw [join_tot, htot]
            exact wpAny_pure (hR _ _ _ F' NN)
    · -- the sign c is
      subst e2
      have hc256 : c < 256 := hoct c (by simp)
      have hy3 : y.cps.toList = dec T1 ++ P ++ (61 :: hx (c / 16) :: hx (c % 16) :: dec r) := by
        rw [hy, dec_append, dec_append, dec_plain hP, dec_esc hc, List.append_assoc]
      have hlen : y.cps.size = (dec T1).length + P.length + (3 + (dec r).length) := by
        have : y.cps.size = y.cps.toList.length := by simp
        rw [this, hy3]; simp; omega
      have g0 : y.cps.getD ((dec T1).length + P.length) 0 = 61 := by
        have := at_mid (a := dec T1 ++ P) hy3
        rwa [List.length_append] at this
      have g1 : y.cps.getD ((dec T1).length + P.length + 1) 0 = hx (c / 16) := by
        have := at_mid (y := y.cps) (a := dec T1 ++ P ++ [61]) (b := hx (c / 16)) (c := hx (c % 16) :: dec r) (by rw [hy3]; simp)
        simpa [Nat.add_assoc] using this
      have g2 : y.cps.getD ((dec T1).length + P.length + 2) 0 = hx (c % 16) := by
        have := at_mid (y := y.cps) (a := dec T1 ++ P ++ [61, hx (c / 16)]) (b := hx (c % 16)) (c := dec r) (by rw [hy3]; simp)
        simpa [Nat.add_assoc] using this
      refine wpAny_bind (wp_search_hit (e := (dec T1).length + P.length) hyz (by omega) (by omega) g0 (by rw [g1]; exact hexc_hx (by omega)) (by rw [g2]; exact hexc_hx (by omega)) (fun i h1 h2 => ?_) ?_)
      · obtain ⟨j, rfl⟩ := Nat.exists_eq_add_of_le h1
        have hj : j < P.length := by omega
        rw [at_plus hy3 hj]
        have : P.getD j 0 ∈ P := by
          rw [List.getD_eq_getElem?_getD, List.getElem?_eq_getElem hj]
          exact List.getElem_mem hj
        exact plain_ne (hP _ this)
      · intro mm hms hmh hmm hml hmi
        dsimp only
        rw [hms]
        have hmb := fun (K : Unit → Sem Fin) (Q : Fin → Shared → Prop) (E : Value → Shared → Prop) h => wp_maybe (M := model PySem.Challenge.rw_ik0023_01.row.prog w) (A := (ktrTop dp un gd cn cs L a ccd cl outer).in1) (E := E) (K := K) (Q := Q) F N hD hy3 (by omega) (by omega) h
        rw [Int.toNat_natCast] at hmb
        refine hmb _ _ _ ?_
        intro h' tk l' nn' F' N' ht' hl'
        refine wpAny_bind (wp_newMatch F' N' hmm hml hmi fun Ma Ta h2 F2 N2 => ?_)
        rw [hms, hmh] at N2
        refine wpAny_bind (wpAny_holding ?_)
        have hcut : y.cps.extract ((dec T1).length + P.length) ((dec T1).length + P.length + 3) = #[61, hx (c / 16), hx (c % 16)] := by
          have := cut_mid (y := y.cps) (a := dec T1 ++ P) (b := [61, hx (c / 16), hx (c % 16)]) (c := dec r) (by rw [hy3]; simp)
          simpa using this
        refine match_tells w c hc256 y (by omega) ((dec T1).length + P.length) ((dec T1).length + P.length + 3) (by rw [hcut]; exact slice_esc _ _) (by rw [hcut]; rfl) (.ref 36) t y.cps.size 0 Ma Ta p loose mean mg mb dp (un + 1) gd cn cs a ccd cl outer A₀ base h₀ L m _ { s with heap := h2, toks := tk } _ _ B F2 X N2 T hk (by omega) (by omega) ?_
        intro t3 h3 tk3 F3 N3
        dsimp only
        rw [if_pos (by rfl)]
        have N4 : News h₀ L h3 ((D, listOf (strValues l').toArray nn') :: news) := fun q hq => N3 q (.tail _ (.tail _ hq))
        refine wpAny_bind (wp_push (s := { s with heap := h3, toks := tk3 }) F3 N4 hD (by rw [vals_size]; omega) fun h5 F5 N5 => ?_)
        rw [vals_snoc] at N5
        refine wpAny_pure ⟨plainId_quiet plain_loop _, ?_⟩
        have hd3 : (dec T1).length + P.length + 3 = (dec (T1 ++ P ++ [c])).length := by
          rw [dec_append, dec_append, dec_plain hP, dec_esc hc]
          simp [dec, Nat.add_assoc]
        rw [hmh, hd3]
        refine ih r.length (by rw [List.length_append, List.length_cons] at hk2; omega) (T1 ++ P ++ [c]) r (l' ++ [(⟨#[c]⟩, t3)]) _ _ _ _ _ (Nat.le_refl _) (fun c' hc' => hoct c' (by simp [hc'])) ?_ F5 N5 ?_ ?_ ?_
        · rw [hy]; congr 1; simp
        · rw [tot_snoc, ht', ht]
        · simp only [List.length_append, List.length_cons, List.length_nil] at *; omega
        · intro t' h6 tk6 F6 N6
          have : T1 ++ P ++ [c] ++ r = T1 ++ (P ++ c :: r) := by simp
          rw [this]
          exact hR _ _ _ F6 N6
end Mine
end
section
open PySem PySem.W PyProof.Rows PySem.Calls
set_option autoImplicit false
set_option maxRecDepth 100000
namespace Mine
open PySem.Builtin PySem.Builtin.Re
theorem look_fn_call : typeLookup (.type "function") "__call__" = pure (some (.builtin "function.__call__")) := by rw [typeLookup_type, builtinLookup_eq_fast]; kernel_rfl
theorem named_sub (y : PySem.Str) (t : Tok) : reNamed "re.Pattern.sub" "sub" ["repl", "string", "count"] 2 [.ref 86, .str y t] [] = pure [some (.ref 86), some (.str y t), none] := by kernel_rfl
theorem sub_str_ba : isSubtype (.type "str") (.type "bytearray") = pure false := by rw [isSubtype_type]; kernel_rfl
theorem notHeld (y : PySem.Str) (t : Tok) : reNotHeld "re.Pattern.sub" (.str y t) = pure () := by
  unfold reNotHeld
  have e : isInstance (.str y t) (.type "bytearray") = pure false := sub_str_ba
  rw [e]
  kernel_rfl
theorem fn_cls (w : World) : ((hd.heap_39 w.params).lookup 86).map Obj.cls = some (.type "function") := by kernel_rfl
theorem call_sub (w : World) (p : Program) (loose : List PySem.Str) (mean : ExcName → Option Value) (mg mb : PySem.Str → Option Value) (dp un : Nat) (gd : Option (List Code)) (cn : PySem.Str) (cs : Scope) (a : Addr) (ccd : Value) (cl : List (PySem.Str × Addr)) (outer : List Env) (A₀ : Around) (base h₀ : Heap) (L : Addr) (m : PySem.Str → Option Value) (news : List (Addr × Obj)) (s : Shared)
    (y : PySem.Str) (t : Tok) (Tx : List Nat) (Q E : Value → Shared → Prop)
    (B : Below A₀ base outer h₀) (F : Fr h₀ L s.heap m) (X : (hd.heap_39 w.params).In h₀) (N : News h₀ L s.heap news) (T : Top p loose mean mg mb h₀) (hk : cs.kind = .function) (hroom : dp + 8 < recursionLimit) (hun : un + 90 < cLine)
    (hys : y.length ≤ 200) (hoct : ∀ c ∈ Tx, c < 256) (hy : y.cps.toList = dec Tx)
    (hret : ∀ (t' : Tok) (h' : Heap) (tk' : Nat), Fr h₀ L h' m → News h₀ L h' news → Q (.str ⟨Tx.toArray⟩ t') { s with heap := h', toks := tk' }) :
    wpAny (model PySem.Challenge.rw_ik0023_01.row.prog w) (ktrTop dp un gd cn cs L a ccd cl outer) (call (.builtin "re.Pattern.sub") [.ref 36, .ref 86, .str y t]) Q E s := by
  have hP : s.heap.get? 36 = some (patObj 35) := F.keep _ _ (X _ _ (look_pat w))
  have hC : s.heap.get? 35 = some codeObj' := F.keep _ _ (X _ _ (look_code w))
  have hfn : s.TypeIs (.ref 86) "function" := by
    have h := fn_cls w
    cases e : List.lookup 86 (hd.heap_39 w.params) with
    | none => rw [e] at h; cases h
    | some o =>
      rw [e] at h
      exact ⟨o, F.keep _ _ (X _ _ e), Option.some.inj h⟩
  refine wpAny_call (codeAny_call_builtin slot_sub.plain entry_sub (slot_sub.check _ _ _ _ _ _ _ _ ⟨_, hP, rfl⟩ (args_sub_3 _ _ _) ?_))
  unfold «re.Pattern.sub» reSubstitute
  dsimp only
  refine wpAny_bind (wpAny_of_eq (named_sub y t) ?_)
  dsimp only
  refine wpAny_bind (wpAny_pure ?_)
  refine wpAny_bind (wpAny_specialOf hfn look_fn_call ?_)
  dsimp only [Option.isSome]
  rw [if_pos rfl]
  refine wpAny_bind (wpAny_pure ?_)
  rw [if_pos rfl]
  refine wpAny_bind (wpAny_pure ?_)
  dsimp only
  refine wpAny_bind (wpAny_holding (wp_target hP hC ?_))
  rw [if_pos (by rfl)]
  refine wpAny_bind (wpAny_of_eq (notHeld y t) ?_)
  refine wpAny_bind (newList_K F N (fun D h1 F1 N1 hD => ?_) (by exact Nat.zero_le _))
  refine wpAny_pure ⟨plainId_quiet plain_loop _, ?_⟩
  refine sub_loop w p loose mean mg mb dp un gd cn cs a ccd cl outer A₀ base h₀ L m news B X T hk hroom hun y t hys D (fun q hq e => ?_) _ Tx.length [] Tx [] 0 0 0 false { s with heap := h1 } (Nat.le_refl _) hoct hy F1 N1 rfl (Nat.zero_le _) ?_
  · have := hD q hq
    rw [e] at this
    exact Nat.lt_irrefl _ this
  · intro t' h' tk' F' N'
    exact hret t' h' tk' F' N'
end Mine
end
section
open PySem PySem.W PyProof.Rows PySem.Calls
set_option autoImplicit false
namespace Mine

section
variable {M : Model} {A : Around} {E : Value → Shared → Prop} {s : Shared} {h₀ : Heap} {L : Addr} {m : PySem.Str → Option Value}
theorem method_sub {w : World} {pl : Sem Bool} {Q : Value × List Value → Shared → Prop} (F : Fr h₀ L s.heap m) (X : (hd.heap_39 w.params).In h₀)
    (h : Q (.builtin "re.Pattern.sub", [.ref 36]) s) : wpAny M A (getMethod (.ref 36) "sub" pl) Q E s := by
  have hM := F.keep _ _ (X _ _ (look_pat w))
  exact getMethod_builtin ⟨_, hM, rfl⟩ plainAttrs_pattern slot_sub type_sub (fun a e => by cases e; exact ⟨_, hM, rfl⟩) h
end
local macro_rules | `(tactic| walk_at "no such tree 0") => `(tactic| fail "none")
local macro_rules | `(tactic| walk_at "getMethod ref") => `(tactic| (refine method_sub (by k_asm) (by k_asm) ?_))
local macro_rules | `(tactic| walk_at "call builtin:str.replace") => `(tactic| (refine SC.replaceW2 100 1 (by decide) (by omega) (by omega) (by omega) (by assumption) (by decide) ?_ (hnb := by none_booked); intro _ _))
local macro_rules | `(tactic| walk_at "call builtin:re.Pattern.sub") => `(tactic| (refine call_sub _ _ _ _ _ _ _ _ _ _ _ _ _ _ _ _ _ _ _ _ _ _ _ _ _ _ _ (by k_asm) (by k_asm) (by k_asm) (by k_asm) (by k_asm) (by first | exact rfl | assumption) (by ktr_room) (by ktr_units) (by assumption) (by assumption) (by assumption) ?_; intro _ _ _ _ _))
set_option maxRecDepth 100000 in
set_option maxHeartbeats 8000000 in
theorem decode_tells : ∀ (w : World) (x : PySem.Str) (_ : x.length ≤ 100) (Tx : List Nat) (_ : ∀ c ∈ Tx, c < 256) (_ : (Txt.replace x (PySem.Str.ofString "_") (PySem.Str.ofString " ")).cps.toList = dec Tx) (_ : (Txt.replace x (PySem.Str.ofString "_") (PySem.Str.ofString " ")).length ≤ 200) (tk : Tok) (p : Program) (loose : List PySem.Str) (mean : ExcName → Option Value) (mg mb : PySem.Str → Option Value) (dp un : Nat) (gd : Option (List Code)) (cn : PySem.Str) (cs : Scope) (a : Addr) (ccd : Value) (cl : List (PySem.Str × Addr)) (outer : List Env) (A₀ : Around) (base h₀ : Heap) (L : Addr) (m : PySem.Str → Option Value) (news : List (Addr × Obj)) (s : Shared)
    (Q E : Value → Shared → Prop) (_ : Below A₀ base outer h₀) (_ : Fr h₀ L s.heap m) (_ : (hd.heap_39 w.params).In h₀) (_ : News h₀ L s.heap (news)) (_ : Top p loose mean mg mb h₀) (_ : cs.kind = .function) (_ : dp + 12 < recursionLimit) (_ : un + 120 < cLine)
    (_ : ∀ (t' : Tok) (h' : Heap) (tk' : Nat), Fr h₀ L h' m → News h₀ L h' news → Q (.str ⟨Tx.toArray⟩ t') { s with heap := h', toks := tk' }),
    wpAny (model PySem.Challenge.rw_ik0023_01.row.prog w) (ktrTop dp un gd cn cs L a ccd cl outer) (call (.ref 93) [.str x tk]) Q E s := by
  w_top off
  k_fill
  intros
  rename_i hret
  refine wpAny_call ?_
  k_dflt ktr_enter
  refine wpAny_execs_cons ?_
  k_steps
  all_goals first | exact hret _ _ _ (by assumption) (by assumption) | trace_state
end Mine
end
section
open PySem PySem.W PyProof.Rows PySem.Calls
set_option autoImplicit false
namespace Mine
def unit (c : Nat) : List Nat := if c = 32 then [95] else if safe c then [c] else [61, hx (c / 16), hx (c % 16)]
def unitS (c : Nat) : PySem.Str := ⟨(unit c).toArray⟩
theorem unit_a {c : Nat} (h : ((⟨#[c]⟩ : PySem.Str) == PySem.Str.ofString " ") = true) : PySem.Str.ofString "_" = unitS c := by
  have e : PySem.Str.ofString " " = ⟨#[32]⟩ := by decide +kernel
  rw [e, beq_iff_eq] at h
  have : c = 32 := by simpa using h
  subst this
  decide +kernel
theorem ne_blank {c : Nat} (h : ((⟨#[c]⟩ : PySem.Str) == PySem.Str.ofString " ") = false) : c ≠ 32 := by
  intro e; subst e; exact absurd h (by decide +kernel)
abbrev abcS : PySem.Str := PySem.Str.ofString "ABCDEFGHIJKLMNOPQRSTUVWXYZabcdefghijklmnopqrstuvwxyz0123456789-!*+/"
theorem abc_is : abcS = ⟨#[65,66,67,68,69,70,71,72,73,74,75,76,77,78,79,80,81,82,83,84,85,86,87,88,89,90,97,98,99,100,101,102,103,104,105,106,107,108,109,110,111,112,113,114,115,116,117,118,119,120,121,122,48,49,50,51,52,53,54,55,56,57,45,33,42,43,47]⟩ := by decide +kernel
theorem abc_safe : ∀ c, c < 256 → (c ∈ ([65,66,67,68,69,70,71,72,73,74,75,76,77,78,79,80,81,82,83,84,85,86,87,88,89,90,97,98,99,100,101,102,103,104,105,106,107,108,109,110,111,112,113,114,115,116,117,118,119,120,121,122,48,49,50,51,52,53,54,55,56,57,45,33,42,43,47] : List Nat) ↔ safe c = true) := by decide +kernel
theorem in_abc {c : Nat} (hc : c < 256) : (Builtin.Str.occurrences abcS ⟨#[c]⟩ 0 abcS.length 1).isEmpty = !(safe c) := by
  have h := StrLaws.found_one abcS c
  have e : decide (c ∈ abcS.cps.toList) = safe c := by
    rw [abc_is, Bool.eq_iff_iff, decide_eq_true_eq]
    exact abc_safe c hc
  rw [e] at h
  rw [← h, Bool.not_not]
theorem figs_is : PySem.Str.ofString "0123456789ABCDEF" = ⟨#[48,49,50,51,52,53,54,55,56,57,65,66,67,68,69,70]⟩ := by decide +kernel
theorem figs_at : ∀ n : Nat, n < 16 → Txt.item ⟨#[48,49,50,51,52,53,54,55,56,57,65,66,67,68,69,70]⟩ (n : Int) = ⟨#[hx n]⟩ := by decide +kernel
theorem unit_b {c : Nat} (hc : c < 256) (h1 : ((⟨#[c]⟩ : PySem.Str) == PySem.Str.ofString " ") = false) (h2 : (Builtin.Str.occurrences abcS ⟨#[c]⟩ 0 abcS.length 1).isEmpty = true) :
    PySem.Str.ofString "=" ++ Txt.item (PySem.Str.ofString "0123456789ABCDEF") ((c : Int).fdiv 16) ++ Txt.item (PySem.Str.ofString "0123456789ABCDEF") ((c : Int).fmod 16) = unitS c := by
  rw [in_abc hc] at h2
  have hs : safe c = false := by simpa using h2
  have e1 : (c : Int).fdiv 16 = ((c / 16 : Nat) : Int) := by
    rw [Int.fdiv_eq_ediv_of_nonneg _ (by decide)]; rfl
  have e2 : (c : Int).fmod 16 = ((c % 16 : Nat) : Int) := by
    rw [Int.fmod_eq_emod_of_nonneg _ (by decide)]; rfl
  have e3 : PySem.Str.ofString "=" = ⟨#[61]⟩ := by decide +kernel
  rw [e1, e2, figs_is, figs_at _ (by omega), figs_at _ (by omega), e3]
  unfold unitS unit
  rw [if_neg (ne_blank h1), hs, if_neg (by decide)]
  rfl
theorem unit_c {c : Nat} (hc : c < 256) (h1 : ((⟨#[c]⟩ : PySem.Str) == PySem.Str.ofString " ") = false) (h2 : (Builtin.Str.occurrences abcS ⟨#[c]⟩ 0 abcS.length 1).isEmpty = false) : (⟨#[c]⟩ : PySem.Str) = unitS c := by
  rw [in_abc hc] at h2
  have hs : safe c = true := by simpa using h2
  unfold unitS unit
  rw [if_neg (ne_blank h1), hs, if_pos rfl]
theorem check_fin (l : List PySem.Str) (hl : ∀ c, c < 256 → l.getD c PySem.Str.empty = unitS c) {c : Nat} (hc : c < 256) : ((⟨#[(c : Int).toNat]⟩ : PySem.Str) != l.getD ((c : Int).toNat) PySem.Str.empty) = !(unit c == [c]) := by
  have e : (c : Int).toNat = c := rfl
  rw [e, hl c hc]
  have h2 : ((⟨#[c]⟩ : PySem.Str) == unitS c) = (unit c == [c]) := by
    rw [Bool.eq_iff_iff, beq_iff_eq, beq_iff_eq]
    unfold unitS
    constructor
    · intro h
      have := congrArg (fun z => z.cps.toList) h
      exact this.symm
    · intro h
      rw [h]
  show (!((⟨#[c]⟩ : PySem.Str) == unitS c)) = _
  rw [h2]
set_option maxRecDepth 100000 in
set_option maxHeartbeats 8000000 in
theorem check_tells : ∀ (w : World) (c : Nat) (_ : c < 256) (tk : Tok) (p : Program) (loose : List PySem.Str) (mean : ExcName → Option Value) (mg mb : PySem.Str → Option Value) (dp un : Nat) (gd : Option (List Code)) (cn : PySem.Str) (cs : Scope) (a : Addr) (ccd : Value) (cl : List (PySem.Str × Addr)) (outer : List Env) (A₀ : Around) (base h₀ : Heap) (L : Addr) (m : PySem.Str → Option Value) (news : List (Addr × Obj)) (s : Shared)
    (Q E : Value → Shared → Prop) (_ : Below A₀ base outer h₀) (_ : Fr h₀ L s.heap m) (_ : (hd.heap_39 w.params).In h₀) (_ : News h₀ L s.heap (news)) (_ : Top p loose mean mg mb h₀) (_ : cs.kind = .function) (_ : dp + 4 < recursionLimit) (_ : un + 40 < cLine)
    (_ : ∀ (v : Bool) (h' : Heap) (tk' : Nat), v = !(unit c == [c]) → Fr h₀ L h' m → News h₀ L h' news → Q (.bool v) { s with heap := h', toks := tk' }),
    wpAny (model PySem.Challenge.rw_ik0023_01.row.prog w) (ktrTop dp un gd cn cs L a ccd cl outer) (call (.ref 59) [.int (c : Int) tk]) Q E s := by
  w_top off
  k_fill
  intros
  rename_i hret
  refine wpAny_call ?_
  k_dflt ktr_enter
  k_steps
  all_goals (refine hret _ _ _ ?_ (by assumption) (by assumption))
  exact check_fin _ (by decide +kernel) (by assumption)
set_option maxRecDepth 100000 in
set_option maxHeartbeats 8000000 in
theorem unit_tells : ∀ (w : World) (c : Nat) (_ : c < 256) (tk : Tok) (p : Program) (loose : List PySem.Str) (mean : ExcName → Option Value) (mg mb : PySem.Str → Option Value) (dp un : Nat) (gd : Option (List Code)) (cn : PySem.Str) (cs : Scope) (a : Addr) (ccd : Value) (cl : List (PySem.Str × Addr)) (outer : List Env) (A₀ : Around) (base h₀ : Heap) (L : Addr) (m : PySem.Str → Option Value) (news : List (Addr × Obj)) (s : Shared)
    (Q E : Value → Shared → Prop) (_ : Below A₀ base outer h₀) (_ : Fr h₀ L s.heap m) (_ : (hd.heap_39 w.params).In h₀) (_ : News h₀ L s.heap (news)) (_ : Top p loose mean mg mb h₀) (_ : cs.kind = .function) (_ : dp + 4 < recursionLimit) (_ : un + 40 < cLine)
    (_ : ∀ (v : PySem.Str) (t' : Tok) (h' : Heap) (tk' : Nat), v = unitS c → Fr h₀ L h' m → News h₀ L h' news → Q (.str v t') { s with heap := h', toks := tk' }),
    wpAny (model PySem.Challenge.rw_ik0023_01.row.prog w) (ktrTop dp un gd cn cs L a ccd cl outer) (call (.ref 131) [.str ⟨#[c]⟩ tk]) Q E s := by
  w_top off
  k_fill
  intros
  rename_i hret
  refine wpAny_call ?_
  k_dflt ktr_enter
  k_steps
  all_goals (refine hret _ _ _ _ ?_ (by assumption) (by assumption))
  all_goals first | exact unit_a (by assumption) | exact unit_b (by assumption) (by assumption) (by assumption) | exact unit_c (by assumption) (by assumption) (by assumption)
end Mine
end
section
open PySem PySem.W PyProof.Rows PySem.Calls
set_option autoImplicit false
namespace Mine
def dunderT (x : PySem.Str) : Bool := decide (4 < (x.length : Int)) && ((Txt.slice x none (some 2) == Txt.slice x (some (-2)) none) && (Txt.slice x (some (-2)) none == PySem.Str.ofString "__")) && (Txt.item x 2 != PySem.Str.ofString "_") && (Txt.item x (-3) != PySem.Str.ofString "_")
def sunderT (x : PySem.Str) : Bool := decide (2 < (x.length : Int)) && ((Txt.item x 0 == Txt.item x (-1)) && (Txt.item x (-1) == PySem.Str.ofString "_")) && (Txt.item x 1 != PySem.Str.ofString "_") && (Txt.item x (-2) != PySem.Str.ofString "_")
abbrev pvS (y : PySem.Str) : PySem.Str := PySem.Str.ofString "_" ++ y ++ PySem.Str.ofString "__"
def privT (y x : PySem.Str) : Bool := decide ((pvS y).length < x.length) && Txt.startswith x (pvS y) && ((Txt.item x (-1) != PySem.Str.ofString "_") || (Txt.item x (-2) != PySem.Str.ofString "_"))
section
variable {x y : PySem.Str}
theorem dn1 (h : ¬ 4 < (x.length : Int)) : decide (4 < (x.length : Int)) = dunderT x := by simp [dunderT, h]
theorem dn2 (h1 : 4 < (x.length : Int)) (h : (Txt.slice x none (some 2) == Txt.slice x (some (-2)) none) = false) : (Txt.slice x none (some 2) == Txt.slice x (some (-2)) none) = dunderT x := by simp only [dunderT, h, Bool.false_and, Bool.and_false]
theorem dn3 (h1 : 4 < (x.length : Int)) (h2 : (Txt.slice x none (some 2) == Txt.slice x (some (-2)) none) = true) (h : (Txt.slice x (some (-2)) none == PySem.Str.ofString "__") = false) : (Txt.slice x (some (-2)) none == PySem.Str.ofString "__") = dunderT x := by simp only [dunderT, h, Bool.false_and, Bool.and_false]
theorem dn4 (h1 : 4 < (x.length : Int)) (h2 : (Txt.slice x none (some 2) == Txt.slice x (some (-2)) none) = true) (h3 : (Txt.slice x (some (-2)) none == PySem.Str.ofString "__") = true) (h : (Txt.item x 2 != PySem.Str.ofString "_") = false) : (Txt.item x 2 != PySem.Str.ofString "_") = dunderT x := by simp only [dunderT, h, Bool.false_and, Bool.and_false]
theorem dn5 (h1 : 4 < (x.length : Int)) (h2 : (Txt.slice x none (some 2) == Txt.slice x (some (-2)) none) = true) (h3 : (Txt.slice x (some (-2)) none == PySem.Str.ofString "__") = true) (h : (Txt.item x 2 != PySem.Str.ofString "_") = true) : (Txt.item x (-3) != PySem.Str.ofString "_") = dunderT x := by simp only [dunderT, h, h1, h2, h3, decide_true, Bool.true_and, Bool.and_true]
theorem sn1 (h : ¬ 2 < (x.length : Int)) : decide (2 < (x.length : Int)) = sunderT x := by simp [sunderT, h]
theorem sn2 (h1 : 2 < (x.length : Int)) (h : (Txt.item x 0 == Txt.item x (-1)) = false) : (Txt.item x 0 == Txt.item x (-1)) = sunderT x := by simp only [sunderT, h, Bool.false_and, Bool.and_false]
theorem sn3 (h1 : 2 < (x.length : Int)) (h2 : (Txt.item x 0 == Txt.item x (-1)) = true) (h : (Txt.item x (-1) == PySem.Str.ofString "_") = false) : (Txt.item x (-1) == PySem.Str.ofString "_") = sunderT x := by simp only [sunderT, h, Bool.false_and, Bool.and_false]
theorem sn4 (h1 : 2 < (x.length : Int)) (h2 : (Txt.item x 0 == Txt.item x (-1)) = true) (h3 : (Txt.item x (-1) == PySem.Str.ofString "_") = true) (h : (Txt.item x 1 != PySem.Str.ofString "_") = false) : (Txt.item x 1 != PySem.Str.ofString "_") = sunderT x := by simp only [sunderT, h, Bool.false_and, Bool.and_false]
theorem sn5 (h1 : 2 < (x.length : Int)) (h2 : (Txt.item x 0 == Txt.item x (-1)) = true) (h3 : (Txt.item x (-1) == PySem.Str.ofString "_") = true) (h : (Txt.item x 1 != PySem.Str.ofString "_") = true) : (Txt.item x (-2) != PySem.Str.ofString "_") = sunderT x := by simp only [sunderT, h, h1, h2, h3, decide_true, Bool.true_and, Bool.and_true]
end
set_option maxRecDepth 100000 in
set_option maxHeartbeats 8000000 in
theorem dunder_tells : ∀ (w : World) (x : PySem.Str) (_ : x.length ≤ 200) (tk : Tok) (p : Program) (loose : List PySem.Str) (mean : ExcName → Option Value) (mg mb : PySem.Str → Option Value) (dp un : Nat) (gd : Option (List Code)) (cn : PySem.Str) (cs : Scope) (a : Addr) (ccd : Value) (cl : List (PySem.Str × Addr)) (outer : List Env) (A₀ : Around) (base h₀ : Heap) (L : Addr) (m : PySem.Str → Option Value) (news : List (Addr × Obj)) (s : Shared)
    (Q E : Value → Shared → Prop) (_ : Below A₀ base outer h₀) (_ : Fr h₀ L s.heap m) (_ : (hd.heap_39 w.params).In h₀) (_ : News h₀ L s.heap (news)) (_ : Top p loose mean mg mb h₀) (_ : cs.kind = .function) (_ : dp + 4 < recursionLimit) (_ : un + 40 < cLine)
    (_ : ∀ (v : Bool) (h' : Heap) (tk' : Nat), v = dunderT x → Fr h₀ L h' m → News h₀ L h' news → Q (.bool v) { s with heap := h', toks := tk' }),
    wpAny (model PySem.Challenge.rw_ik0023_01.row.prog w) (ktrTop dp un gd cn cs L a ccd cl outer) (call (.ref 100) [.str x tk]) Q E s := by
  w_top off
  k_fill
  intros
  rename_i hret
  refine wpAny_call ?_
  k_dflt ktr_enter
  k_steps
  all_goals (refine hret _ _ _ ?_ (by assumption) (by assumption))
  all_goals first
    | with_reducible exact dn1 (by assumption) | with_reducible exact dn2 (by assumption) (by assumption) | with_reducible exact dn3 (by assumption) (by assumption) (by assumption)
    | with_reducible exact dn4 (by assumption) (by assumption) (by assumption) (by assumption) | with_reducible exact dn5 (by assumption) (by assumption) (by assumption) (by assumption) | trace_state
set_option maxRecDepth 100000 in
set_option maxHeartbeats 8000000 in
theorem sunder_tells : ∀ (w : World) (x : PySem.Str) (_ : x.length ≤ 200) (tk : Tok) (p : Program) (loose : List PySem.Str) (mean : ExcName → Option Value) (mg mb : PySem.Str → Option Value) (dp un : Nat) (gd : Option (List Code)) (cn : PySem.Str) (cs : Scope) (a : Addr) (ccd : Value) (cl : List (PySem.Str × Addr)) (outer : List Env) (A₀ : Around) (base h₀ : Heap) (L : Addr) (m : PySem.Str → Option Value) (news : List (Addr × Obj)) (s : Shared)
    (Q E : Value → Shared → Prop) (_ : Below A₀ base outer h₀) (_ : Fr h₀ L s.heap m) (_ : (hd.heap_39 w.params).In h₀) (_ : News h₀ L s.heap (news)) (_ : Top p loose mean mg mb h₀) (_ : cs.kind = .function) (_ : dp + 4 < recursionLimit) (_ : un + 40 < cLine)
    (_ : ∀ (v : Bool) (h' : Heap) (tk' : Nat), v = sunderT x → Fr h₀ L h' m → News h₀ L h' news → Q (.bool v) { s with heap := h', toks := tk' }),
    wpAny (model PySem.Challenge.rw_ik0023_01.row.prog w) (ktrTop dp un gd cn cs L a ccd cl outer) (call (.ref 107) [.str x tk]) Q E s := by
  w_top off
  k_fill
  intros
  rename_i hret
  refine wpAny_call ?_
  k_dflt ktr_enter
  k_steps
  all_goals (refine hret _ _ _ ?_ (by assumption) (by assumption))
  all_goals first
    | with_reducible exact sn1 (by assumption) | with_reducible exact sn2 (by assumption) (by assumption) | with_reducible exact sn3 (by assumption) (by assumption) (by assumption)
    | with_reducible exact sn4 (by assumption) (by assumption) (by assumption) (by assumption) | with_reducible exact sn5 (by assumption) (by assumption) (by assumption) (by assumption) | trace_state
end Mine
end
section
open PySem PySem.W PyProof.Rows PySem.Calls
set_option autoImplicit false
namespace Mine
local macro_rules | `(tactic| walk_at "no such tree 0") => `(tactic| fail "none")
local macro_rules | `(tactic| walk_at "execs cons") => `(tactic| refine wpAny_execs_cons ?_)
section
variable {x y : PySem.Str}
theorem pv_len : (PySem.Str.ofString "_").length + y.length + (PySem.Str.ofString "__").length = (pvS y).length := by
  unfold pvS; rw [Str.length_append, Str.length_append]
theorem pv1 (h : ¬ ((((PySem.Str.ofString "_").length + y.length + (PySem.Str.ofString "__").length : Nat)) : Int) < (x.length : Int)) : false = privT y x := by
  rw [pv_len] at h
  have : decide ((pvS y).length < x.length) = false := decide_eq_false (by omega)
  unfold privT; rw [this]; rfl
theorem pv2 (h : Txt.startswith x (PySem.Str.ofString "_" ++ y ++ PySem.Str.ofString "__") = false) : false = privT y x := by
  unfold privT; rw [h, Bool.and_false]; rfl
theorem pv3 (h1 : ((((PySem.Str.ofString "_").length + y.length + (PySem.Str.ofString "__").length : Nat)) : Int) < (x.length : Int)) (h2 : Txt.startswith x (PySem.Str.ofString "_" ++ y ++ PySem.Str.ofString "__") = true) (h : (Txt.item x (-1) != PySem.Str.ofString "_") = true) : true = privT y x := by
  rw [pv_len] at h1
  have : decide ((pvS y).length < x.length) = true := decide_eq_true (by omega)
  unfold privT; rw [this, h2, h]; rfl
theorem pv4 (h1 : ((((PySem.Str.ofString "_").length + y.length + (PySem.Str.ofString "__").length : Nat)) : Int) < (x.length : Int)) (h2 : Txt.startswith x (PySem.Str.ofString "_" ++ y ++ PySem.Str.ofString "__") = true) (h : (Txt.item x (-2) != PySem.Str.ofString "_") = true) : true = privT y x := by
  rw [pv_len] at h1
  have : decide ((pvS y).length < x.length) = true := decide_eq_true (by omega)
  unfold privT; rw [this, h2, h, Bool.or_true]; rfl
theorem pv5 (h2 : (Txt.item x (-1) != PySem.Str.ofString "_") = false) (h : (Txt.item x (-2) != PySem.Str.ofString "_") = false) : false = privT y x := by
  unfold privT; rw [h2, h]; simp
end
set_option maxRecDepth 100000 in
set_option maxHeartbeats 8000000 in
theorem private_tells : ∀ (w : World) (x : PySem.Str) (_ : x.length ≤ 200) (y : PySem.Str) (_ : y.length ≤ 20) (tk tk2 : Tok) (p : Program) (loose : List PySem.Str) (mean : ExcName → Option Value) (mg mb : PySem.Str → Option Value) (dp un : Nat) (gd : Option (List Code)) (cn : PySem.Str) (cs : Scope) (a : Addr) (ccd : Value) (cl : List (PySem.Str × Addr)) (outer : List Env) (A₀ : Around) (base h₀ : Heap) (L : Addr) (m : PySem.Str → Option Value) (news : List (Addr × Obj)) (s : Shared)
    (Q E : Value → Shared → Prop) (_ : Below A₀ base outer h₀) (_ : Fr h₀ L s.heap m) (_ : (hd.heap_39 w.params).In h₀) (_ : News h₀ L s.heap (news)) (_ : Top p loose mean mg mb h₀) (_ : cs.kind = .function) (_ : dp + 4 < recursionLimit) (_ : un + 40 < cLine)
    (_ : ∀ (v : Bool) (h' : Heap) (tk' : Nat), v = privT y x → Fr h₀ L h' m → News h₀ L h' news → Q (.bool v) { s with heap := h', toks := tk' }),
    wpAny (model PySem.Challenge.rw_ik0023_01.row.prog w) (ktrTop dp un gd cn cs L a ccd cl outer) (call (.ref 114) [.str y tk2, .str x tk]) Q E s := by
  w_top off
  k_fill
  intros
  rename_i hret
  refine wpAny_call ?_
  k_dflt ktr_enter
  k_steps
  all_goals (refine hret _ _ _ ?_ (by assumption) (by assumption))
  all_goals first
    | with_reducible exact pv1 (by assumption) | with_reducible exact pv2 (by assumption) | with_reducible exact pv3 (by assumption) (by assumption) (by assumption)
    | with_reducible exact pv4 (by assumption) (by assumption) (by assumption) | with_reducible exact pv5 (by assumption) (by assumption) | trace_state
end Mine
end
section
open PySem PySem.W PyProof.Rows PySem.Calls
set_option autoImplicit false
namespace Mine
local macro_rules | `(tactic| walk_at "no such tree 0") => `(tactic| fail "none")
local macro_rules | `(tactic| walk_at "execs cons") => `(tactic| refine wpAny_execs_cons ?_)

def tabOk (o : Obj) : Bool := match o with
  | ⟨.type "list", _, .seq a _, _⟩ => (List.range 256).all fun c => match a[c]? with
    | some (.str x _) => x == unitS c
    | _ => false
  | _ => false
theorem look_tab (w : World) : ((hd.heap_39 w.params).lookup 44).map tabOk = some true := by kernel_rfl
theorem tab_of {h : Heap} {a : Addr} {o : Obj} (ho : h.get? a = some o) (hk : tabOk o = true) : TabOf h a unitS := by
  unfold tabOk at hk
  split at hk
  · rename_i d arr n sl
    refine ⟨arr.toList, ⟨_, ho, rfl, n, by simp⟩, fun c hc => ?_⟩
    have h1 := List.all_eq_true.mp hk c (List.mem_range.mpr hc)
    rw [Array.getElem?_toList]
    split at h1
    · rename_i x t e
      rw [beq_iff_eq] at h1
      exact ⟨t, by rw [e, h1]⟩
    · cases h1
  · cases hk
theorem tab_here (w : World) {h : Heap} (X : (hd.heap_39 w.params).In h) : TabOf h 44 unitS := by
  have h := look_tab w
  cases e : List.lookup 44 (hd.heap_39 w.params) with
  | none => rw [e] at h; cases h
  | some o =>
    rw [e] at h
    exact tab_of (X _ _ e) (Option.some.inj h)
theorem unitS_len (c : Nat) : (unitS c).length ≤ 3 := by
  unfold unitS unit PySem.Str.length
  split
  · decide
  · split <;> simp
section
variable {prog : Program} {w : World} {A : Around} {E : Value → Shared → Prop} {s : Shared} {h₀ : Heap} {L : Addr} {m : PySem.Str → Option Value}
theorem method_translate {M : Model} {x : PySem.Str} {t : Tok} {pl : Sem Bool} {Q : Value × List Value → Shared → Prop} (h : Q (.builtin "str.translate", [.str x t]) s) : wpAny M A (getMethod (.str x t) "translate" pl) Q E s := by
  with_reducible exact GM.of (.str x t) (typeIs_str _ _ _) F.slot_str_translate F.type_str_translate GM.noRef h
theorem octs_lt {b : Array UInt8} : ∀ c ∈ octs b, c < 256 := by
  intro c hc
  unfold octs at hc
  obtain ⟨u, _, rfl⟩ := List.mem_map.mp hc
  exact u.toNat_lt
theorem call_translate {b : Array UInt8} {x : PySem.Str} {t : Tok} {Q : Value → Shared → Prop} (Fh : Fr h₀ L s.heap m) (X : (hd.heap_39 w.params).In h₀) (hx : x = ⟨(octs b).toArray⟩) (hb : b.size ≤ 20) (hne : 0 < b.size)
    (h : ∀ (v : PySem.Str) t' k, v.cps = outOf unitS (octs b) → v.length ≤ 100 → Q (.str v t') { s with toks := k }) : wpAny (model prog w) A (call (.builtin "str.translate") [.str x t, .ref 44]) Q E s := by
  subst hx
  have hl : (⟨(octs b).toArray⟩ : PySem.Str).length = b.size := by simp [PySem.Str.length, octs]
  refine call_meets F.slot_str_translate (typeIs_str _ _ _) F.entry_str_translate (F.args_str_translate_2 _ _) (meets_translate (tab := unitS) unitS_len (by omega) (by omega) (by intro c hc; exact octs_lt c hc)) ⟨tab_here w (X.keeps Fh.keep), fun t' k => h _ _ _ rfl ?_⟩
  show (outOf unitS (octs b)).size ≤ 100
  have := len_out unitS unitS_len (octs b)
  have h2 : (octs b).length = b.size := by simp [octs]
  omega
end
def encW (cset : PySem.Str) (b : Array UInt8) : PySem.Str := if b.size = 0 then PySem.Str.ofString "" else PySem.Str.empty ++ PySem.Str.ofString "=?" ++ cset ++ PySem.Str.ofString "?q?" ++ ⟨outOf unitS (octs b)⟩ ++ PySem.Str.ofString "?="
theorem encW_ne {cset v : PySem.Str} {b : Array UInt8} (h : (b.size : Int) ≠ 0) (hv : v.cps = outOf unitS (octs b)) : PySem.Str.empty ++ PySem.Str.ofString "=?" ++ cset ++ PySem.Str.ofString "?q?" ++ v ++ PySem.Str.ofString "?=" = encW cset b := by
  unfold encW
  rw [if_neg (by omega), ← hv]
theorem encW_nil {cset : PySem.Str} {b : Array UInt8} (h : (b.size : Int) = 0) : PySem.Str.ofString "" = encW cset b := by
  unfold encW
  rw [if_pos (by omega)]
local macro_rules | `(tactic| walk_at "call builtin:bytes.decode") => `(tactic| (refine call_latin (by omega) (by omega) ?_; intro _ _))
local macro_rules | `(tactic| walk_at "getMethod str") => `(tactic| (with_reducible refine method_translate ?_))
local macro_rules | `(tactic| walk_at "call builtin:str.translate") => `(tactic| (refine call_translate (by k_asm) (by k_asm) rfl (by assumption) (by omega) ?_; intro _ _ _ _ _))
set_option maxRecDepth 100000 in
set_option maxHeartbeats 8000000 in
theorem encode2_tells : ∀ (w : World) (b : Array UInt8) (_ : b.size ≤ 20) (cset : PySem.Str) (_ : cset.length ≤ 20) (tk tk2 : Tok) (p : Program) (loose : List PySem.Str) (mean : ExcName → Option Value) (mg mb : PySem.Str → Option Value) (dp un : Nat) (gd : Option (List Code)) (cn : PySem.Str) (cs : Scope) (a : Addr) (ccd : Value) (cl : List (PySem.Str × Addr)) (outer : List Env) (A₀ : Around) (base h₀ : Heap) (L : Addr) (m : PySem.Str → Option Value) (news : List (Addr × Obj)) (s : Shared)
    (Q E : Value → Shared → Prop) (_ : Below A₀ base outer h₀) (_ : Fr h₀ L s.heap m) (_ : (hd.heap_39 w.params).In h₀) (_ : News h₀ L s.heap (news)) (_ : Top p loose mean mg mb h₀) (_ : cs.kind = .function) (_ : dp + 4 < recursionLimit) (_ : un + 40 < cLine)
    (_ : ∀ (v : PySem.Str) (t' : Tok) (h' : Heap) (tk' : Nat), v = encW cset b → Fr h₀ L h' m → News h₀ L h' news → Q (.str v t') { s with heap := h', toks := tk' }),
    wpAny (model PySem.Challenge.rw_ik0023_01.row.prog w) (ktrTop dp un gd cn cs L a ccd cl outer) (call (.ref 74) [.bytes b tk, .str cset tk2]) Q E s := by
  w_top off
  k_fill
  intros
  rename_i hret
  refine wpAny_call ?_
  k_dflt (refine' code_def ?k1 ?k2 ?k3 ?k4 ?k5 ?kA ?kF ?kK ?k6 ?k7 ?k8 ?k9 ?kB ?_ ?c2 ?c3 ?c4 ?c5; (case kA => exact rfl); (case kF => exact rfl); (case kK => assumption); (case k1 => k_asm); (case k2 => k_asm); (case k3 => k_asm); (case k4 => k_asm); (case k5 => k_asm); (case k6 => k_is); (case k7 => k_is); (case k8 => ktr_room); (case k9 => first | exact BindsTo.of_eq rfl | exact binds_K (by k_in) rfl (by k_is) rfl rfl rfl | fail "k9"); (case c5 => decide); (case kB => exact locs rfl); (case c2 => exact rfl); (case c3 => exact rfl); (case c4 => exact rfl); k_whole; intro g' L' h' FG' F' N' B' X' T'; (try dsimp only); (try k_fold))
  k_steps
  all_goals (refine hret _ _ _ _ ?_ (by assumption) (by assumption))
  all_goals first | with_reducible exact encW_ne (by assumption) (by assumption) | with_reducible exact encW_nil (by assumption) | trace_state
set_option maxRecDepth 100000 in
set_option maxHeartbeats 8000000 in
theorem encode1_tells : ∀ (w : World) (b : Array UInt8) (_ : b.size ≤ 20) (tk : Tok) (p : Program) (loose : List PySem.Str) (mean : ExcName → Option Value) (mg mb : PySem.Str → Option Value) (dp un : Nat) (gd : Option (List Code)) (cn : PySem.Str) (cs : Scope) (a : Addr) (ccd : Value) (cl : List (PySem.Str × Addr)) (outer : List Env) (A₀ : Around) (base h₀ : Heap) (L : Addr) (m : PySem.Str → Option Value) (news : List (Addr × Obj)) (s : Shared)
    (Q E : Value → Shared → Prop) (_ : Below A₀ base outer h₀) (_ : Fr h₀ L s.heap m) (_ : (hd.heap_39 w.params).In h₀) (_ : News h₀ L s.heap (news)) (_ : Top p loose mean mg mb h₀) (_ : cs.kind = .function) (_ : dp + 4 < recursionLimit) (_ : un + 40 < cLine)
    (_ : ∀ (v : PySem.Str) (t' : Tok) (h' : Heap) (tk' : Nat), v = encW (PySem.Str.ofString "iso-8859-1") b → Fr h₀ L h' m → News h₀ L h' news → Q (.str v t') { s with heap := h', toks := tk' }),
    wpAny (model PySem.Challenge.rw_ik0023_01.row.prog w) (ktrTop dp un gd cn cs L a ccd cl outer) (call (.ref 74) [.bytes b tk]) Q E s := by
  w_top off
  k_fill
  intros
  rename_i hret
  refine wpAny_call ?_
  k_dflt (refine' code_def ?k1 ?k2 ?k3 ?k4 ?k5 ?kA ?kF ?kK ?k6 ?k7 ?k8 ?k9 ?kB ?_ ?c2 ?c3 ?c4 ?c5; (case kA => exact rfl); (case kF => exact rfl); (case kK => assumption); (case k1 => k_asm); (case k2 => k_asm); (case k3 => k_asm); (case k4 => k_asm); (case k5 => k_asm); (case k6 => k_is); (case k7 => k_is); (case k8 => ktr_room); (case k9 => first | exact BindsTo.of_eq rfl | exact binds_K (by k_in) rfl (by k_is) rfl rfl rfl | fail "k9"); (case c5 => decide); (case kB => exact locs rfl); (case c2 => exact rfl); (case c3 => exact rfl); (case c4 => exact rfl); k_whole; intro g' L' h' FG' F' N' B' X' T'; (try dsimp only); (try k_fold))
  k_steps
  all_goals (refine hret _ _ _ _ ?_ (by assumption) (by assumption))
  all_goals first | with_reducible exact encW_ne (by assumption) (by assumption) | with_reducible exact encW_nil (by assumption) | trace_state
end Mine
end
section
open PySem PySem.W PyProof.Rows PySem.Calls
set_option autoImplicit false
set_option maxRecDepth 100000
namespace Mine
open PyProof.Rows.LCg (NsObj lst Off3 Off1 CompEnd CompRest FinE FinA block_U)
/-- what a comprehension runs over: n items, the i-th told by P i; what of the ledger must stay is told by S -/
def Src (prog : Program) (w : World) (A : Around) (h₀ : Heap) (L : Addr) (m : PySem.Str → Option Value) (ex : List Addr) (n : Nat) (P : Nat → Value → Prop) (S : List (Addr × Obj) → Prop) (news : List (Addr × Obj)) (xv : Value) (s₁ : Shared) : Prop :=
  ∀ (Q E : Value → Shared → Prop), (∀ (I : Addr) (St : Nat → Heap → Prop) (h' : Heap), Walks prog w A I (I :: ex) [I] n P St → (∀ i h, St i h → ∃ o, h.get? I = some o) →
      (∀ i h h' o nw, St i h → h.get? I = some o → h'.get? I = some o → (∀ b o, h₀.get? b = some o → h'.get? b = some o) → News h₀ L h' nw → S nw → St i h') →
      St 0 h' → (∀ b ∈ I :: ex, b < h'.objs.size) → Fr h₀ L h' m → News h₀ L h' news → L ≠ I → h₀.get? I = none → (∀ p ∈ news, p.1 ≠ I) → Q (.ref I) { s₁ with heap := h' }) →
    wpAny (model prog w) A (pyIter xv) Q E s₁
section
variable {prog : Program} {w : World} {A : Around} {E : Value → Shared → Prop} {s s₁ : Shared} {h₀ : Heap} {L : Addr} {m : PySem.Str → Option Value} {env : Env} {news : List (Addr × Obj)}
theorem src_str {y : PySem.Str} {t : Tok} (hh : A.handled = none) (F : Fr h₀ L s₁.heap m) (N : News h₀ L s₁.heap news) : Src prog w A h₀ L m [] y.cps.size (SignAt y) (fun _ => True) news (.str y t) s₁ := by
  intro Q E hQ
  have up : ∀ (o : Obj), ∀ b o', s₁.heap.get? b = some o' → (s₁.heap.push o).get? b = some o' := fun o b o' e => Heap.get?_push_of_some _ e
  have key : ∀ (ty : String) (o : Obj), o = { cls := .type ty, data := .fields #[.str y t, .int 0 0] } → Walks prog w A s₁.heap.objs.size [s₁.heap.objs.size] [s₁.heap.objs.size] y.cps.size (SignAt y) (fun i h => h.IsStrIter s₁.heap.objs.size ty y t i) →
      Q (.ref s₁.heap.objs.size) { s₁ with heap := s₁.heap.push o } := by
    rintro ty o rfl W
    refine hQ _ _ _ W (fun i h st => ⟨_, st.choose_spec.1⟩) (fun i h h' o nw st e e' _ _ _ => ?_) ⟨_, Heap.get?_push_size _ rfl, rfl, rfl⟩ (fun b hb => ?_) (F.push _) (N.grown fun _ _ e => Heap.get?_push_of_some _ e) (Nat.ne_of_lt F.ns.lt) (next_is_new F) (fun p hp => Nat.ne_of_lt (Heap.lt_size (N p hp).1))
    · exact W.frame _ _ _ st fun b hb o' eo => by
        rw [List.mem_singleton.mp hb] at eo ⊢
        rw [e] at eo; cases eo; exact e'
    · rw [List.mem_singleton.mp hb]
      show s₁.heap.objs.size < (s₁.heap.push _).objs.size
      rw [Heap.size_push]; exact Nat.lt_succ_self _
  cases ha : y.cps.all (· < 128)
  · exact wpAny_pyIter_wide ha (key "str_iterator" _ rfl (Walks.strWide hh _ y t))
  · exact wpAny_pyIter_ascii ha (key "str_ascii_iterator" _ rfl (Walks.strAscii hh _ y t))
theorem src_tup {ax : Addr} {its : Array Value} {k : Nat} (hh : A.handled = none) (F : Fr h₀ L s₁.heap m) (N : News h₀ L s₁.heap news) (hm : (ax, ({ cls := .type "tuple", data := .seq its k } : Obj)) ∈ news) :
    Src prog w A h₀ L m [ax] its.size (fun i v => its[i]? = some v) (fun nw => (ax, ({ cls := .type "tuple", data := .seq its k } : Obj)) ∈ nw) news (.ref ax) s₁ := by
  intro Q E hQ
  have hl : s₁.heap.IsTuple ax its := ⟨_, (N _ hm).1, rfl, k, rfl⟩
  have hlt : ax < s₁.heap.objs.size := Heap.lt_size (N _ hm).1
  refine wpAny_pyIter_tuple hl ?_
  have W := Walks.tuple (prog := prog) (w := w) hh s₁.heap.objs.size ax (Nat.ne_of_lt hlt) its
  refine hQ _ _ _ W (fun i h st => ⟨_, st.1.choose_spec.1⟩) (fun i h h' o nw st e e' _ N' hS => ?_) ⟨⟨_, Heap.get?_push_size _ rfl, rfl, rfl⟩, hl.push _⟩ (fun b hb => ?_) (F.push _) (N.grown fun _ _ e => Heap.get?_push_of_some _ e) (Nat.ne_of_lt F.ns.lt) (next_is_new F) (fun p hp => Nat.ne_of_lt (Heap.lt_size (N p hp).1))
  · refine ⟨?_, ⟨_, (N' _ hS).1, rfl, k, rfl⟩⟩
    obtain ⟨o', q, r⟩ := st.1
    rw [e] at q; cases q
    exact ⟨o, e', r⟩
  · show b < (s₁.heap.push _).objs.size
    rw [Heap.size_push]
    rcases List.mem_cons.mp hb with rfl | hb
    · exact Nat.lt_succ_self _
    · rw [List.mem_singleton.mp hb]; exact Nat.lt_succ_of_lt hlt
theorem src_list {ax : Addr} {its : Array Value} {k : Nat} (hh : A.handled = none) (F : Fr h₀ L s₁.heap m) (N : News h₀ L s₁.heap news) (hm : (ax, ({ cls := .type "list", data := .seq its k } : Obj)) ∈ news) :
    Src prog w A h₀ L m [ax] its.size (fun i v => its[i]? = some v) (fun nw => (ax, ({ cls := .type "list", data := .seq its k } : Obj)) ∈ nw) news (.ref ax) s₁ := by
  intro Q E hQ
  have hl : s₁.heap.IsList ax its := ⟨_, (N _ hm).1, rfl, k, rfl⟩
  have hlt : ax < s₁.heap.objs.size := Heap.lt_size (N _ hm).1
  refine wpAny_pyIter_list hl ?_
  have W := Walks.list (prog := prog) (w := w) hh s₁.heap.objs.size ax (Nat.ne_of_lt hlt) its
  refine hQ _ _ _ W (fun i h st => ⟨_, st.1.choose_spec.1⟩) (fun i h h' o nw st e e' _ N' hS => ?_) ⟨⟨_, Heap.get?_push_size _ rfl, rfl, rfl⟩, hl.push _⟩ (fun b hb => ?_) (F.push _) (N.grown fun _ _ e => Heap.get?_push_of_some _ e) (Nat.ne_of_lt F.ns.lt) (next_is_new F) (fun p hp => Nat.ne_of_lt (Heap.lt_size (N p hp).1))
  · refine ⟨?_, ⟨_, (N' _ hS).1, rfl, k, rfl⟩⟩
    obtain ⟨o', q, r⟩ := st.1
    rw [e] at q; cases q
    exact ⟨o, e', r⟩
  · show b < (s₁.heap.push _).objs.size
    rw [Heap.size_push]
    rcases List.mem_cons.mp hb with rfl | hb
    · exact Nat.lt_succ_self _
    · rw [List.mem_singleton.mp hb]; exact Nat.lt_succ_of_lt hlt

def FromSrc (prog : Program) (w : World) (A : Around) (h₀ : Heap) (L : Addr) (m : PySem.Str → Option Value) (env : Env) (elt : Expr) (x : PySem.Str) (scope : Scope) (cl : List (PySem.Str × Addr)) (Fin : Shared → List Value → List (Addr × Obj) → Prop) (xv : Value) (s₁ : Shared) : Prop :=
  ∃ ex n P S news, Src prog w A h₀ L m ex n P S news xv s₁ ∧ S news ∧ n ≤ sizeLine ∧ ∀ s₂ : Shared, (∃ h, s₂ = { s₁ with heap := h }) → CompRest prog w A h₀ L m env elt x scope cl s₂ S P (Fin s₂) n 0 [] news

theorem comp_src {elt iter : Expr} {x : PySem.Str} {px : Pos} {scope : Scope} {cl : List (PySem.Str × Addr)} {pos : Pos} {Q : Value → Shared → Prop} (_ : Fr h₀ L s.heap m)
    (hclos : closureFor scope env = pure cl) (hcell : ∀ y ∈ scope.names, y.2 ≠ .cell) (hkind : scope.kind = .function)
    (hnames : ∀ y ∈ scope.names, y.2 = .local → scope.names.lookup y.1 = some .local) (hx : scope.names.lookup x = some .local)
    (h : wpAny (model prog w) A (eval iter env) (FromSrc prog w A h₀ L m env elt x scope cl (fun s₂ => FinE h₀ L m s₂ Q)) E s)
    (hs : ∀ x, foldedSetIterable iter env x = pure x := by intro _; rfl) :
    wpAny (model prog w) A (eval (.ListComp elt [⟨.Name x px, iter, [], 0⟩] scope pos) env) Q E s := by
  rw [eval_ListComp]
  refine wpAny_comprehension_free (use := none) rfl hs hclos hkind hnames (wpAny_mono h (fun xv s₁ h₁ => ?_) fun _ _ e => e)
  obtain ⟨ex, n, P, S, news, src, hS, hsz, R⟩ := h₁
  refine src _ _ fun I St h' W hIo hSt hst hfp F N hIL hI₀ off => ?_
  refine block_U W hsz hIo hSt hcell hkind hx hst hfp F N hIL hI₀ off hS (R _ ⟨_, rfl⟩) ?_
  intro D C h' tk m' ys news' F' N' o1 hn hC₀ hD₀ hCL hDL hCD offC fin
  refine ⟨m', hn, fun h'' hs'' => fin D h'' tk (F'.change hs'' hCL hC₀) (fun p hp => ?_) o1⟩
  refine ⟨hs''.extBut _ _ ?_ (N' p hp).1, (N' p hp).2⟩
  rcases List.mem_cons.mp hp with rfl | hp
  · exact Ne.symm hCD
  · exact offC p hp
theorem assign_src {elt iter : Expr} {x y : PySem.Str} {px py : Pos} {scope : Scope} {cl : List (PySem.Str × Addr)} {pos spos : Pos} {Q : Flow → Shared → Prop} (_ : Fr h₀ L s.heap m) (hLe : env.locals = L)
    (hsw : swapsWith (.ListComp elt [⟨.Name x px, iter, [], 0⟩] scope pos) (some (.Name y py)) spos.line env = pure true)
    (hclos : closureFor scope env = pure cl) (hcell : ∀ z ∈ scope.names, z.2 ≠ .cell) (hkind : scope.kind = .function)
    (hnames : ∀ z ∈ scope.names, z.2 = .local → scope.names.lookup z.1 = some .local) (hx : scope.names.lookup x = some .local)
    (hy : env.kindOf y = some .local) (hp : (env.scope.kind == .class || (env.scope.kind == .module && env.locals != env.globals)) = false)
    (h : wpAny (model prog w) A (eval iter env) (FromSrc prog w A h₀ L m env elt x scope cl (fun s₂ => FinA h₀ L m s₂ y Q)) E s)
    (hs : ∀ x, foldedSetIterable iter env x = pure x := by intro _; rfl) :
    wpAny (model prog w) A (exec (.Assign [.Name y py] (.ListComp elt [⟨.Name x px, iter, [], 0⟩] scope pos) spos) env) Q E s := by
  subst hLe
  rw [exec_Assign_Name_used _ _ _ _ hsw]
  refine wpAny_bind (wpAny_standAt (wpAny_bind ?_))
  show wpAny _ A (do let _ ← comprehension (.ListComp elt [⟨.Name x px, iter, [], 0⟩] scope pos) scope env _ (newList []) false (eval iter env) (some (assign (.Name y py) env))) _ _ s
  refine wpAny_bind (wpAny_mono (wpAny_comprehension_free (use := some (assign (.Name y py) env)) (Q := fun _ s' => Q .next s') rfl hs hclos hkind hnames
    (wpAny_mono h (fun xv s₁ h₁ => ?_) fun _ _ e => e)) (fun _ s' hq => wpAny_pure (wpAny_pure hq)) fun _ _ e => e)
  obtain ⟨ex, n, P, S, news, src, hS, hsz, R⟩ := h₁
  refine src _ _ fun I St h' W hIo hSt hst hfp F N hIL hI₀ off => ?_
  refine block_U W hsz hIo hSt hcell hkind hx hst hfp F N hIL hI₀ off hS (R _ ⟨_, rfl⟩) ?_
  intro D C h' tk m' ys news' F' N' o1 hn hC₀ hD₀ hCL hDL hCD offC fin
  show wpAny _ A (assign (.Name y py) env (.ref D)) _ _ _
  refine wpAny_assign_Name (wpAny_storeName_local hy F'.ns (fun h₂ hn₂ hs₂ => ?_) hp)
  have hL₀ : h₀.get? env.locals = none := Heap.get?_none_of_le F'.above
  have F₂ : Fr h₀ env.locals h₂ (fun z => if z = y then some (.ref D) else m z) := ⟨hn₂, fun b o e => hs₂.extBut b o (fun q => by rw [q, hL₀] at e; cases e) (F'.keep b o e), F'.above⟩
  refine ⟨m', hn.sameBut hs₂ hCL, fun h'' hs'' => fin D h'' _ (F₂.change hs'' hCL hC₀) (fun p hp => ?_) o1⟩
  have z : h₂.get? p.1 = some p.2 := hs₂.extBut _ _ (N' p hp).2.1 (N' p hp).1
  refine ⟨hs''.extBut _ _ ?_ z, (N' p hp).2⟩
  rcases List.mem_cons.mp hp with rfl | hp
  · exact Ne.symm hCD
  · exact offC p hp

/-- a turn per item, the ledger as it was -/
theorem rest_of {elt : Expr} {x : PySem.Str} {scope : Scope} {cl : List (PySem.Str × Addr)} {S : List (Addr × Obj) → Prop} {P : Nat → Value → Prop} {Fin : List Value → List (Addr × Obj) → Prop} {α : Type} (as : List α) (P' : α → Value → Prop) (Out : α → Value → Prop)
    (hP : ∀ i v, P i v → ∃ a, as[i]? = some a ∧ P' a v) (hS : S news)
    (turn : ∀ a v I oI C oC D m₂ ys h tk (E' : Value → Shared → Prop), a ∈ as → P' a v → NsObj oC m₂ → m₂ x = some v → Fr h₀ L h m → News h₀ L h ((I, oI) :: (C, oC) :: (D, lst ys) :: news) → Off3 I C D news → ((@Ne Nat I C) ∧ (@Ne Nat I D) ∧ (@Ne Nat C D)) →
      wpAny (model prog w) A (eval elt (compEnvC scope cl C env)) (fun y s₂ => ∃ h' tk', s₂ = { s with heap := h', toks := tk' } ∧ Fr h₀ L h' m ∧ News h₀ L h' ((I, oI) :: (C, oC) :: (D, lst ys) :: news) ∧ Out a y) E' { s with heap := h, toks := tk })
    (fin : ∀ ys : List Value, ys.length = as.length → (∀ (i : Nat) (a : α) (y : Value), as[i]? = some a → ys[i]? = some y → Out a y) → Fin ys news) : CompRest prog w A h₀ L m env elt x scope cl s S P Fin as.length 0 [] news := by
  have key : ∀ (j i : Nat) (ys : List Value), i + j = as.length → ys.length = i → (∀ (k : Nat) (a : α) (y : Value), as[k]? = some a → ys[k]? = some y → Out a y) → CompRest prog w A h₀ L m env elt x scope cl s S P Fin j i ys news := by
    intro j
    induction j with
    | zero =>
      intro i ys hi hl hy
      exact CompRest.zero (fin ys (by omega) hy)
    | succ j ih =>
      intro i ys hi hl hy
      refine CompRest.succ ?_
      intro v I oI C oC D m₂ h tk E' hv hC hx F N off ne
      obtain ⟨a, ha, hv'⟩ := hP i v hv
      refine wpAny_mono (turn a v I oI C oC D m₂ ys h tk E' (List.mem_of_getElem? ha) hv' hC hx F N off ne) (fun y s₂ hq => ?_) fun _ _ e => e
      obtain ⟨h', tk', e, F', N', hO⟩ := hq
      refine ⟨h', tk', news, e, F', N', off, hS, ?_⟩
      refine ih (i + 1) _ (by omega) (by simp [hl]) ?_
      intro k a' y' h1 h2
      by_cases hk : k < ys.length
      · rw [List.getElem?_append_left hk] at h2
        exact hy k a' y' h1 h2
      · rw [List.getElem?_append_right (by omega)] at h2
        by_cases hk2 : k = ys.length
        · subst hk2
          simp at h2
          rw [hl] at h1
          rw [ha] at h1
          cases h1
          subst h2
          exact hO
        · have : k - ys.length ≥ 1 := by omega
          rw [List.getElem?_eq_none (by simpa using this)] at h2
          cases h2
  exact key as.length 0 [] (by omega) rfl (by intro k a y _ h; simp at h)
end
end Mine
end
section
open PySem PySem.W PyProof.Rows PySem.Calls
set_option autoImplicit false
set_option maxRecDepth 100000
namespace Mine
open PyProof.Rows.LCg (NsObj lst Off3 Off1 CompEnd CompRest FinE FinA)
structure TurnEnd (s : Shared) (h₀ : Heap) (L : Addr) (m : PySem.Str → Option Value) (led : List (Addr × Obj)) (Out : Value → Prop) (y : Value) (s₂ : Shared) : Prop where
  out : ∃ h' tk', s₂ = { s with heap := h', toks := tk' } ∧ Fr h₀ L h' m ∧ News h₀ L h' led ∧ Out y
theorem TurnEnd.mk' {s : Shared} {h₀ h' : Heap} {L : Addr} {m : PySem.Str → Option Value} {led all : List (Addr × Obj)} {Out : Value → Prop} {y : Value} {tk' : Nat} (F : Fr h₀ L h' m) (N : News h₀ L h' all) (hs : ∀ p ∈ led, p ∈ all) (o : Out y) : TurnEnd s h₀ L m led Out y { s with heap := h', toks := tk' } :=
  ⟨_, _, rfl, F, fun p hp => N p (hs p hp), o⟩
section
variable {prog : Program} {w : World} {A : Around} {E : Value → Shared → Prop} {s s₁ : Shared} {h₀ : Heap} {L : Addr} {m : PySem.Str → Option Value} {env : Env} {news : List (Addr × Obj)}
theorem from_str {elt : Expr} {x : PySem.Str} {scope : Scope} {cl : List (PySem.Str × Addr)} {Fin : Shared → List Value → List (Addr × Obj) → Prop} {y : PySem.Str} {t : Tok} (Out : Nat → Value → Prop) (hh : A.handled = none) (F : Fr h₀ L s₁.heap m) (N : News h₀ L s₁.heap news) (hsz : y.length ≤ 1000)
    (turn : ∀ c u I oI C oC D m₂ ys h tk (E' : Value → Shared → Prop), c ∈ y.cps.toList → NsObj oC m₂ → m₂ x = some (.str ⟨#[c]⟩ u) → Fr h₀ L h m → News h₀ L h ((I, oI) :: (C, oC) :: (D, lst ys) :: news) → Off3 I C D news → ((@Ne Nat I C) ∧ (@Ne Nat I D) ∧ (@Ne Nat C D)) →
      wpAny (model prog w) A (eval elt (compEnvC scope cl C env)) (TurnEnd s₁ h₀ L m ((I, oI) :: (C, oC) :: (D, lst ys) :: news) (Out c)) E' { s₁ with heap := h, toks := tk })
    (fin : ∀ (g : Heap) (ys : List Value), ys.length = y.cps.toList.length → (∀ (i : Nat) (c : Nat) (v : Value), y.cps.toList[i]? = some c → ys[i]? = some v → Out c v) → Fin { s₁ with heap := g } ys news) :
    FromSrc prog w A h₀ L m env elt x scope cl Fin (.str y t) s₁ := by
  refine ⟨_, _, _, _, news, src_str hh F N, trivial, by rw [sizeLine_eq]; exact Nat.le_trans hsz (by decide), ?_⟩
  rintro s₂ ⟨g, rfl⟩
  have := rest_of (prog := prog) (w := w) (A := A) (h₀ := h₀) (L := L) (m := m) (env := env) (news := news) (s := { s₁ with heap := g }) (elt := elt) (x := x) (scope := scope) (cl := cl) (S := fun _ => True) (P := SignAt y) (Fin := Fin { s₁ with heap := g }) y.cps.toList (fun c v => ∃ u, v = .str ⟨#[c]⟩ u) Out
    (fun i v hv => by
      obtain ⟨c, u, h1, h2⟩ := hv
      exact ⟨c, by simpa using h1, u, h2⟩) trivial
    (fun c v I oI C oC D m₂ ys h tk E' hc hv hC hx F' N' off ne => by
      obtain ⟨u, rfl⟩ := hv
      exact wpAny_mono (turn c u I oI C oC D m₂ ys h tk E' hc hC hx F' N' off ne) (fun _ _ z => z.out) fun _ _ e => e)
    (fun ys h1 h2 => fin g ys h1 h2)
  have e : y.cps.toList.length = y.cps.size := by simp
  rw [e] at this
  exact this
theorem ints_of_out {l : List Nat} : ∀ {ys : List Value}, ys.length = l.length → (∀ (i : Nat) (c : Nat) (v : Value), l[i]? = some c → ys[i]? = some v → ∃ t, v = .int (c : Int) t) → IntsAre ys (l.map fun (c : Nat) => (c : Int)) := by
  induction l with
  | nil =>
    intro ys h1 _
    cases ys with
    | nil => exact .nil
    | cons a r => simp at h1
  | cons c l ih =>
    intro ys h1 h2
    cases ys with
    | nil => simp at h1
    | cons a r =>
      obtain ⟨t, rfl⟩ := h2 0 c a rfl rfl
      exact .cons _ t (ih (by simpa using h1) fun i c' v e1 e2 => h2 (i + 1) c' v e1 e2)
def octB (x : PySem.Str) : Array UInt8 := byteArr (x.cps.toList.map fun (c : Nat) => (c : Int))
theorem call_bytes_K {D : Addr} {ys : List Value} {k : Nat} {x : PySem.Str} {Q : Value → Shared → Prop} (F : Fr h₀ L s.heap m) (N : News h₀ L s.heap news) (hm : (D, ({ cls := .type "list", data := .seq ys.toArray k } : Obj)) ∈ news)
    (hi : IntsAre ys (x.cps.toList.map fun (c : Nat) => (c : Int))) (hr : ∀ c ∈ x.cps.toList, c < 256) (hz : x.length ≤ 1000) (hh : A.handled = none)
    (hQ : ∀ h' t k, Fr h₀ L h' m → News h₀ L h' news → Q (.bytes (octB x) t) { s with heap := h', toks := k }) : wpAny (model prog w) A (call (.type "bytes") [.ref D]) Q E s := by
  refine call_bytes_ints (News.isList N hm) hi (fun n hn => ?_) ?_ hh fun h' t k hk => hQ h' t k (F.keeps hk) (N.grown hk)
  · obtain ⟨c, hc, rfl⟩ := List.mem_map.mp hn
    have := hr c hc
    omega
  · have := hi.length
    rw [this, List.length_map, sizeLine_eq]
    have e : x.cps.toList.length = x.length := by simp [PySem.Str.length]
    omega
end
end Mine
end
section
open PySem PySem.W PyProof.Rows PySem.Calls
set_option autoImplicit false
set_option maxRecDepth 100000
namespace Mine
theorem strs_of_out {g : Nat → PySem.Str} : ∀ {l : List Nat} {ys : List Value}, ys.length = l.length → (∀ (i : Nat) (c : Nat) (v : Value), l[i]? = some c → ys[i]? = some v → ∃ t, v = .str (g c) t) → ∃ vl : List (PySem.Str × Tok), ys = strValues vl ∧ vl.map (·.1) = l.map g := by
  intro l
  induction l with
  | nil =>
    intro ys h1 _
    cases ys with
    | nil => exact ⟨[], rfl, rfl⟩
    | cons a r => simp at h1
  | cons c l ih =>
    intro ys h1 h2
    cases ys with
    | nil => simp at h1
    | cons a r =>
      obtain ⟨t, rfl⟩ := h2 0 c a rfl rfl
      obtain ⟨vl, e1, e2⟩ := ih (ys := r) (by simpa using h1) fun i c' v e1 e2 => h2 (i + 1) c' v e1 e2
      exact ⟨(g c, t) :: vl, by rw [e1]; rfl, by rw [List.map_cons, List.map_cons, e2]⟩
theorem tot_of {g : Nat → PySem.Str} {l : List Nat} {vl : List (PySem.Str × Tok)} (h : vl.map (·.1) = l.map g) : (tot vl).toArray = outOf g l := by
  unfold tot outOf
  have e : (vl.flatMap fun p => p.1.cps.toList) = (vl.map (·.1)).flatMap fun x => x.cps.toList := by rw [List.flatMap_map]
  rw [e, h, List.flatMap_map]
section
variable {prog : Program} {w : World} {A : Around} {E : Value → Shared → Prop} {s : Shared} {h₀ : Heap} {L : Addr} {m : PySem.Str → Option Value} {news : List (Addr × Obj)}
theorem call_join_K {D : Addr} {ys : List Value} {k : Nat} {g : Nat → PySem.Str} {l : List Nat} {t : Tok} {sep : PySem.Str} {Q : Value → Shared → Prop} (N : News h₀ L s.heap news) (hm : (D, ({ cls := .type "list", data := .seq ys.toArray k } : Obj)) ∈ news)
    (hsep : sep = PySem.Str.ofString "") (h1 : ys.length = l.length) (h2 : ∀ (i : Nat) (c : Nat) (v : Value), l[i]? = some c → ys[i]? = some v → ∃ t, v = .str (g c) t) (hlen : ∀ c, (g c).length ≤ 3) (hz : l.length ≤ 300)
    (hQ : ∀ t' k', Q (.str ⟨outOf g l⟩ t') { s with toks := k' }) : wpAny (model prog w) A (call (.builtin "str.join") [.str sep t, .ref D]) Q E s := by
  obtain ⟨vl, rfl, e2⟩ := strs_of_out h1 h2
  have e0 : PySem.Str.ofString "" = ⟨#[]⟩ := by decide +kernel
  subst hsep
  rw [e0]
  have hl3 : (tot vl).length ≤ 1000 := by
    have := len_out g hlen l
    rw [← tot_of e2, List.size_toArray] at this
    omega
  refine SC.join (l := vl) (texts := vl.map (·.1)) (News.isList N hm) rfl (joinOk_tot _ hl3) fun t' k' => ?_
  rw [join_tot, tot_of e2]
  exact hQ _ _
end
def exc (c : Nat) : Nat := if c = 32 then 95 else if c = 95 then 32 else c
def excS (c : Nat) : PySem.Str := ⟨#[exc c]⟩
theorem excS_len (c : Nat) : (excS c).length ≤ 3 := by show 1 ≤ 3; decide
theorem exc_a {c : Nat} (h : ((⟨#[c]⟩ : PySem.Str) == PySem.Str.ofString " ") = true) : PySem.Str.ofString "_" = excS c := by
  have e : PySem.Str.ofString " " = ⟨#[32]⟩ := by decide +kernel
  rw [e, beq_iff_eq] at h
  have : c = 32 := by simpa using h
  subst this
  decide +kernel
theorem exc_b {c : Nat} (h : ((⟨#[c]⟩ : PySem.Str) == PySem.Str.ofString "_") = true) : PySem.Str.ofString " " = excS c := by
  have e : PySem.Str.ofString "_" = ⟨#[95]⟩ := by decide +kernel
  rw [e, beq_iff_eq] at h
  have : c = 95 := by simpa using h
  subst this
  decide +kernel
theorem exc_c {c : Nat} (h1 : ((⟨#[c]⟩ : PySem.Str) == PySem.Str.ofString " ") = false) (h2 : ((⟨#[c]⟩ : PySem.Str) == PySem.Str.ofString "_") = false) : (⟨#[c]⟩ : PySem.Str) = excS c := by
  have a : c ≠ 32 := by intro e; subst e; exact absurd h1 (by decide +kernel)
  have b : c ≠ 95 := by intro e; subst e; exact absurd h2 (by decide +kernel)
  unfold excS exc
  rw [if_neg a, if_neg b]
theorem str_out {g : Nat → PySem.Str} {c : Nat} {v : PySem.Str} {t : Tok} (h : v = g c) : ∃ t', Value.str v t = Value.str (g c) t' := ⟨t, by rw [h]⟩
end Mine
end
section
open PySem PySem.W PyProof.Rows PySem.Calls
set_option autoImplicit false
namespace Mine
local macro_rules | `(tactic| walk_at "execs cons") => `(tactic| refine wpAny_execs_cons ?_)
local macro_rules | `(tactic| walk_at "eval ListComp") => `(tactic| (k_dflt (refine comp_src (by k_asm) (by with_unfolding_all rfl) (by decide) (by rfl) (by decide) (by rfl) ?_)))
local macro_rules | `(tactic| walk_at "exec Assign cons ListComp") => `(tactic| (k_dflt (refine assign_src (by k_asm) (by rfl) (by with_unfolding_all rfl) (by with_unfolding_all rfl) (by decide) (by rfl) (by decide) (by rfl) (by rfl) (by rfl) ?_)))
local macro_rules | `(tactic| walk_at "FromSrc") => `(tactic| (refine from_str (fun c v => ∃ t, v = Value.int (c : Int) t) (by rfl) (by k_asm) (by k_asm) (by omega) ?_ ?_; focus (intro c' u' I' oI' C' oC' D' m' ys' h' tk' E' hc' hC' hx' F' N' off' ne')))
local macro_rules | `(tactic| walk_at "TurnEnd") => `(tactic| (k_dflt (refine TurnEnd.mk' (by k_asm) (by k_asm) (by kcf_all) ?_)))
local macro_rules | `(tactic| walk_at "call type:bytes") => `(tactic| (k_dflt (refine call_bytes_K (by k_asm) (by k_asm) (by k_mem) (ints_of_out (by assumption) (by assumption)) (by assumption) (by omega) (by rfl) ?_); intro h' t' k' F' N'))
set_option maxRecDepth 100000 in
set_option maxHeartbeats 8000000 in
theorem octets_tells : ∀ (w : World) (x : PySem.Str) (_ : x.length ≤ 20) (_ : ∀ c ∈ x.cps.toList, c < 256) (tk : Tok) (p : Program) (loose : List PySem.Str) (mean : ExcName → Option Value) (mg mb : PySem.Str → Option Value) (dp un : Nat) (gd : Option (List Code)) (cn : PySem.Str) (cs : Scope) (a : Addr) (ccd : Value) (cl : List (PySem.Str × Addr)) (outer : List Env) (A₀ : Around) (base h₀ : Heap) (L : Addr) (m : PySem.Str → Option Value) (news : List (Addr × Obj)) (s : Shared)
    (Q E : Value → Shared → Prop) (_ : Below A₀ base outer h₀) (_ : Fr h₀ L s.heap m) (_ : (hd.heap_39 w.params).In h₀) (_ : News h₀ L s.heap (news)) (_ : Top p loose mean mg mb h₀) (_ : cs.kind = .function) (_ : dp + 4 < recursionLimit) (_ : un + 40 < cLine)
    (_ : ∀ (t' : Tok) (h' : Heap) (tk' : Nat), Fr h₀ L h' m → News h₀ L h' news → Q (.bytes (octB x) t') { s with heap := h', toks := tk' }),
    wpAny (model PySem.Challenge.rw_ik0023_01.row.prog w) (ktrTop dp un gd cn cs L a ccd cl outer) (call (.ref 119) [.str x tk]) Q E s := by
  w_top off
  k_fill
  intros
  rename_i hret
  refine wpAny_call ?_
  k_dflt ktr_enter
  k_steps
  all_goals first | exact ⟨_, rfl⟩ | exact hret _ _ _ (by assumption) (cb_drop (by assumption) (by kcf_all)) | trace_state
end Mine
end
section
open PySem PySem.W PyProof.Rows PySem.Calls
set_option autoImplicit false
namespace Mine
local macro_rules | `(tactic| walk_at "no such tree 0") => `(tactic| fail "none")
local macro_rules | `(tactic| walk_at "execs cons") => `(tactic| refine wpAny_execs_cons ?_)
local macro_rules | `(tactic| walk_at "eval ListComp") => `(tactic| (k_dflt (refine comp_src (by k_asm) (by with_unfolding_all rfl) (by decide) (by rfl) (by decide) (by rfl) ?_)))
local macro_rules | `(tactic| walk_at "exec Assign cons ListComp") => `(tactic| (k_dflt (refine assign_src (by k_asm) (by rfl) (by with_unfolding_all rfl) (by with_unfolding_all rfl) (by decide) (by rfl) (by decide) (by rfl) (by rfl) (by rfl) ?_)))
local macro_rules | `(tactic| walk_at "FromSrc") => `(tactic| (refine from_str (fun c v => ∃ t, v = Value.str (excS c) t) (by rfl) (by k_asm) (by k_asm) (by omega) ?_ ?_; focus (intro c' u' I' oI' C' oC' D' m' ys' h' tk' E' hc' hC' hx' F' N' off' ne')))
local macro_rules | `(tactic| walk_at "TurnEnd") => `(tactic| (k_dflt (refine TurnEnd.mk' (by k_asm) (by k_asm) (by kcf_all) ?_); refine str_out ?_; first | with_reducible exact exc_a (by assumption) | with_reducible exact exc_b (by assumption) | with_reducible exact exc_c (by assumption) (by assumption)))
local macro_rules | `(tactic| walk_at "call builtin:str.join") => `(tactic| (k_dflt (refine call_join_K (by k_asm) (by k_mem) (by rfl) (by assumption) (by assumption) excS_len (by rw [Array.length_toList]; exact Nat.le_trans (by assumption) (by decide)) ?_); intro t' k'))
set_option maxRecDepth 100000 in
set_option maxHeartbeats 8000000 in
theorem exchanged_tells : ∀ (w : World) (x : PySem.Str) (_ : x.length ≤ 20) (tk : Tok) (p : Program) (loose : List PySem.Str) (mean : ExcName → Option Value) (mg mb : PySem.Str → Option Value) (dp un : Nat) (gd : Option (List Code)) (cn : PySem.Str) (cs : Scope) (a : Addr) (ccd : Value) (cl : List (PySem.Str × Addr)) (outer : List Env) (A₀ : Around) (base h₀ : Heap) (L : Addr) (m : PySem.Str → Option Value) (news : List (Addr × Obj)) (s : Shared)
    (Q E : Value → Shared → Prop) (_ : Below A₀ base outer h₀) (_ : Fr h₀ L s.heap m) (_ : (hd.heap_39 w.params).In h₀) (_ : News h₀ L s.heap (news)) (_ : Top p loose mean mg mb h₀) (_ : cs.kind = .function) (_ : dp + 4 < recursionLimit) (_ : un + 40 < cLine)
    (_ : ∀ (t' : Tok) (h' : Heap) (tk' : Nat), Fr h₀ L h' m → News h₀ L h' news → Q (.str ⟨outOf excS x.cps.toList⟩ t') { s with heap := h', toks := tk' }),
    wpAny (model PySem.Challenge.rw_ik0023_01.row.prog w) (ktrTop dp un gd cn cs L a ccd cl outer) (call (.ref 124) [.str x tk]) Q E s := by
  w_top off
  k_fill
  intros
  rename_i hret
  refine wpAny_call ?_
  k_dflt ktr_enter
  k_steps
  all_goals first | exact hret _ _ _ (by assumption) (cb_drop (by assumption) (by kcf_all)) | trace_state
end Mine
end
section
open PySem PySem.W PyProof.Rows PySem.Calls
set_option autoImplicit false
set_option maxRecDepth 100000
namespace Mine
section
variable {M : Model} {A : Around} {E : Value → Shared → Prop} {s : Shared} {h₀ : Heap} {L : Addr} {m : PySem.Str → Option Value} {led : List (Addr × Obj)} {env : Env}
/-- and of three truth values, one way on -/
theorem and3 {e1 e2 e3 : Expr} {pos : Pos} {b1 b2 b3 : Bool} {Q : Value → Shared → Prop} (_ : Fr h₀ L s.heap m) (_ : News h₀ L s.heap led)
    (h1 : wpAny M A (eval e1 env) (TurnEnd s h₀ L m led (fun v => v = .bool b1)) E s)
    (h2 : ∀ (h : Heap) (tk : Nat), b1 = true → Fr h₀ L h m → News h₀ L h led → wpAny M A (eval e2 env) (TurnEnd s h₀ L m led (fun v => v = .bool b2)) E { s with heap := h, toks := tk })
    (h3 : ∀ (h : Heap) (tk : Nat), b1 = true → b2 = true → Fr h₀ L h m → News h₀ L h led → wpAny M A (eval e3 env) (TurnEnd s h₀ L m led (fun v => v = .bool b3)) E { s with heap := h, toks := tk })
    (k : ∀ (h : Heap) (tk : Nat), Fr h₀ L h m → News h₀ L h led → Q (.bool (b1 && b2 && b3)) { s with heap := h, toks := tk }) :
    wpAny M A (eval (.BoolOp .And [e1, e2, e3] pos) env) Q E s := by
  have tr : ∀ {b : Bool} {s : Shared} {R : Bool → Shared → Prop}, R b s → wpAny M A (truthy (.bool b)) R E s := fun {b s R} h => wpAny_of_eq (a := b) rfl h
  refine BoolOp_and (wpAny_mono h1 (fun v s₁ z => ?_) fun _ _ e => e)
  obtain ⟨g1, t1, rfl, F1, N1, rfl⟩ := z.out
  refine tr ?_
  cases hb1 : b1 with
  | false =>
    rw [hb1] at k
    exact k g1 t1 F1 N1
  | true =>
    rw [if_pos rfl]
    refine BoolOp_and (wpAny_mono (h2 g1 t1 hb1 F1 N1) (fun v s₂ z => ?_) fun _ _ e => e)
    obtain ⟨g2, t2, rfl, F2, N2, rfl⟩ := z.out
    refine tr ?_
    cases hb2 : b2 with
    | false =>
      rw [hb1, hb2] at k
      exact k g2 t2 F2 N2
    | true =>
      rw [if_pos rfl]
      refine BoolOp_one (wpAny_mono (h3 g2 t2 hb1 hb2 F2 N2) (fun v s₃ z => ?_) fun _ _ e => e)
      obtain ⟨g3, t3, rfl, F3, N3, rfl⟩ := z.out
      rw [hb1, hb2] at k
      exact k g3 t3 F3 N3
end
end Mine
end
section
open PySem PySem.W PyProof.Rows PySem.Calls
set_option autoImplicit false
set_option maxRecDepth 100000
namespace Mine
/-- a turn's end of a loop: the names off x and the stored ones hold what they held, the ledger nx' stands at the places of nx, the iterator's own objects stand -/
structure ForEnd (h₀ : Heap) (L : Addr) (m₀ : PySem.Str → Option Value) (x : PySem.Str) (stores : List PySem.Str) (own nx : List (Addr × Obj)) (Jn : List (Addr × Obj) → Prop) (s₁ : Shared) (Q : Flow → Shared → Prop) (f : Flow) (s₂ : Shared) : Prop where
  out : match f with
    | .ret v => Q (.ret v) s₂
    | .brk => Q .next s₂
    | _ => ∃ h' tk' m' nx', s₂ = { s₁ with heap := h', toks := tk' } ∧ Fr h₀ L h' m' ∧ News h₀ L h' (nx' ++ own) ∧ nx'.map (·.1) = nx.map (·.1) ∧ (∀ z, z ≠ x → stores.contains z = false → m' z = m₀ z) ∧ Jn nx'
section
variable {prog : Program} {w : World} {A : Around} {E : Value → Shared → Prop} {s : Shared} {h₀ : Heap} {env : Env} {m₀ : PySem.Str → Option Value}
theorem for_src {x : PySem.Str} {px pos : Pos} {iter : Expr} {body : List Stmt} {Q : Flow → Shared → Prop} (stores : List PySem.Str) (J : Nat → List (Addr × Obj) → Prop)
    (F : Fr h₀ env.locals s.heap m₀) (hx : env.kindOf x = some .local) (hp : (env.scope.kind == .class || (env.scope.kind == .module && env.locals != env.globals)) = false)
    (h : wpAny (model prog w) A (eval iter env) (fun xv s₁ => ∃ ex n P S news, Src prog w A h₀ env.locals m₀ ex n P S news xv s₁ ∧ (∀ b ∈ ex, b ≠ env.locals) ∧ J 0 news ∧
      (∀ i v (u : PySem.Str → Option Value) h tk own nx, i < n → P i v → J i nx → nx.map (·.1) = news.map (·.1) → (∀ p ∈ own, (∀ q ∈ nx, q.1 ≠ p.1) ∨ p.1 ∈ ex) →
        Fr h₀ env.locals h (fun y => if y = x then some v else if stores.contains y = true then u y else m₀ y) → News h₀ env.locals h (nx ++ own) →
        wpAny (model prog w) A (execs body env) (ForEnd h₀ env.locals m₀ x stores own nx (J (i + 1)) s₁ Q) E { s₁ with heap := h, toks := tk }) ∧
      (∀ (u : PySem.Str → Option Value) h tk nx, J n nx → Fr h₀ env.locals h (fun y => if y = x then u y else if stores.contains y = true then u y else m₀ y) → News h₀ env.locals h nx → Q .next { s₁ with heap := h, toks := tk })) E s)
    (hs : ∀ x, foldedSetIterable iter env x = pure x := by intro _; rfl)
    (hE : PassesOwn (model prog w) A env E := by passes_own) :
    wpAny (model prog w) A (exec (.For (.Name x px) iter body [] pos) env) Q E s := by
  refine For_invVF F hx hp (wpAny_mono h (fun xv s₁ h₁ => ?_) fun _ _ e => e) hs hE
  obtain ⟨ex, n, P, S, news, src, hex, hJ0, turn, done⟩ := h₁
  refine src _ _ fun I St h' W hIo hSt hst hfp F' N hIL hI₀ off => ?_
  let J' : Nat → (PySem.Str → Option Value) → List (Addr × Obj) → Prop := fun i m nx => nx.map (·.1) = news.map (·.1) ∧ (∀ z, z ≠ x → stores.contains z = false → m z = m₀ z) ∧ J i nx
  refine ⟨I, I :: ex, [I], n, P, St, m₀, news, J', rfl, W, ?_, ?_, ?_, hst, F', N, ⟨rfl, fun _ _ _ => rfl, hJ0⟩, ?_, ?_⟩
  · intro hm
    rcases List.mem_cons.mp hm with e | hm
    · exact hIL e
    · exact hex _ hm rfl
  · intro b hb
    rw [List.mem_singleton.mp hb]; exact hI₀
  · intro p hp hI
    exact off p hp (List.mem_singleton.mp hI)
  · rintro i v m₁ nx s₂ own ⟨g, tk, rfl⟩ hi hP ⟨hadr, hm, hJ⟩ hoff hown _ _ _ F₁ N₁
    have hnI : ∀ q ∈ nx, q.1 ≠ I := fun q hq e => hoff q hq (by rw [e]; exact List.mem_singleton.mpr rfl)
    have hsep : ∀ p ∈ own, (∀ q ∈ nx, q.1 ≠ p.1) ∨ p.1 ∈ ex := fun p hp => by
      rcases List.mem_cons.mp (hown p hp) with e | e
      · exact .inl fun q hq e2 => hnI q hq (e2.trans e)
      · exact .inr e
    have hfun : (fun y => if y = x then some v else m₁ y) = fun y => if y = x then some v else if stores.contains y = true then m₁ y else m₀ y := by
      funext y
      by_cases h1 : y = x
      · rw [if_pos h1, if_pos h1]
      · rw [if_neg h1, if_neg h1]
        cases h2 : stores.contains y with
        | true => rw [if_pos rfl]
        | false => rw [if_neg (by decide)]; exact hm y h1 h2
    rw [hfun] at F₁
    have N₂ : News h₀ env.locals g (nx ++ own) := fun p hp => N₁ p ((List.mem_append.mp hp).elim (fun h => List.mem_append.mpr (.inr h)) fun h => List.mem_append.mpr (.inl h))
    refine wpAny_mono (turn i v m₁ g tk own nx hi hP hJ hadr hsep F₁ N₂) (fun f s₃ z => ?_) fun _ _ e => e
    have fin : (∃ h' tk' m' nx', s₃ = { s₁ with heap := h', toks := tk' } ∧ Fr h₀ env.locals h' m' ∧ News h₀ env.locals h' (nx' ++ own) ∧ nx'.map (·.1) = nx.map (·.1) ∧ (∀ z, z ≠ x → stores.contains z = false → m' z = m₀ z) ∧ J (i + 1) nx') →
        LoopStepU h₀ env.locals [I] own (J' (i + 1)) { s₁ with heap := g, toks := tk } .next s₃ := by
      rintro ⟨h', tk', m', nx', e, F2, N2, ha, hm2, hJ2⟩
      refine ⟨rfl, h', tk', m', nx', e, F2, fun p hp => N2 p ((List.mem_append.mp hp).elim (fun h => List.mem_append.mpr (.inr h)) fun h => List.mem_append.mpr (.inl h)), fun p hp hq => ?_, ha.trans hadr, hm2, hJ2⟩
      have h1 : p.1 ∈ nx'.map (·.1) := List.mem_map.mpr ⟨p, hp, rfl⟩
      rw [ha] at h1
      obtain ⟨q, hq1, hq2⟩ := List.mem_map.mp h1
      exact hnI q hq1 (by rw [hq2]; exact List.mem_singleton.mp hq)
    have z' := z.out
    cases f with
    | ret v => exact .ret z'
    | brk => exact .brk z'
    | next => exact .next (fin z')
    | cont => exact .cont (fin z')
  · rintro h' tk m' nx F2 N2 _ ⟨_, hm2, hJ2⟩
    refine done m' h' tk nx hJ2 ?_ N2
    have hfun : m' = fun y => if y = x then m' y else if stores.contains y = true then m' y else m₀ y := by
      funext y
      by_cases h1 : y = x
      · rw [if_pos h1]
      · rw [if_neg h1]
        cases h2 : stores.contains y with
        | true => rw [if_pos rfl]
        | false => rw [if_neg (by decide)]; exact hm2 y h1 h2
    rw [hfun] at F2
    exact F2
theorem ForEnd.next {h₀ h' : Heap} {L : Addr} {m₀ m' : PySem.Str → Option Value} {x : PySem.Str} {stores : List PySem.Str} {own nx : List (Addr × Obj)} {Jn : List (Addr × Obj) → Prop} {s₁ : Shared} {Q : Flow → Shared → Prop} {tk' : Nat} {all : List (Addr × Obj)} (nx' : List (Addr × Obj)) (F : Fr h₀ L h' m') (N : News h₀ L h' all) (hs : ∀ p ∈ nx' ++ own, p ∈ all)
    (ha : nx'.map (·.1) = nx.map (·.1)) (hm : ∀ z, z ≠ x → stores.contains z = false → m' z = m₀ z) (hJ : Jn nx') : ForEnd h₀ L m₀ x stores own nx Jn s₁ Q .next { s₁ with heap := h', toks := tk' } :=
  ⟨⟨h', tk', m', nx', rfl, F, fun p hp => N p (hs p hp), ha, hm, hJ⟩⟩
end
end Mine
end
section
open PySem PySem.W PyProof.Rows PySem.Calls
set_option autoImplicit false
set_option maxRecDepth 100000
namespace Mine
open PyProof.Rows.LCg (NsObj lst Off3 Off1 CompEnd CompRest FinE FinA)
def Stop (p : Prop) : Prop := p
theorem stopHere {p : Prop} (h : Stop p) : p := h
abbrev tupS (ys : List (PySem.Str × Tok)) (k : Nat) : Obj := { cls := .type "tuple", data := .seq (strValues ys).toArray k }
abbrev lstS (ys : List (PySem.Str × Tok)) (k : Nat) : Obj := { cls := .type "list", data := .seq (strValues ys).toArray k }
theorem AllLt.mem {d : Addr} : ∀ {l : List (Addr × Obj)}, AllLt d l → ∀ p ∈ l, p.1 < d
  | [], _, _, h => nomatch h
  | q :: r, h, p, hp => by
    rcases List.mem_cons.mp hp with rfl | hp
    · exact h.1
    · exact AllLt.mem h.2 p hp
theorem vals_at {ys : List (PySem.Str × Tok)} {i : Nat} {v : Value} (h : (strValues ys).toArray[i]? = some v) : ∃ y t, ys[i]? = some (y, t) ∧ v = .str y t := by
  have h' : (strValues ys)[i]? = some v := by simpa using h
  unfold strValues at h'
  rw [List.getElem?_map] at h'
  cases e : ys[i]? with
  | none => rw [e] at h'; cases h'
  | some q => rw [e] at h'; exact ⟨q.1, q.2, rfl, (Option.some.inj h').symm⟩
section
variable {prog : Program} {w : World} {A : Around} {E : Value → Shared → Prop} {s s₁ : Shared} {h₀ : Heap} {L : Addr} {m : PySem.Str → Option Value} {env : Env} {news : List (Addr × Obj)}
theorem from_seq {elt : Expr} {x : PySem.Str} {scope : Scope} {cl : List (PySem.Str × Addr)} {Fin : Shared → List Value → List (Addr × Obj) → Prop} {xv : Value} {ex : List Addr} {S : List (Addr × Obj) → Prop} (ys : List (PySem.Str × Tok)) (Out : PySem.Str → Value → Prop)
    (src : Src prog w A h₀ L m ex (strValues ys).toArray.size (fun i v => (strValues ys).toArray[i]? = some v) S news xv s₁) (hS : S news) (hsz : ys.length ≤ 1000)
    (turn : ∀ y u I oI C oC D m₂ vs h tk (E' : Value → Shared → Prop), (y, u) ∈ ys → NsObj oC m₂ → m₂ x = some (.str y u) → Fr h₀ L h m → News h₀ L h ((I, oI) :: (C, oC) :: (D, lst vs) :: news) → Off3 I C D news → ((@Ne Nat I C) ∧ (@Ne Nat I D) ∧ (@Ne Nat C D)) →
      wpAny (model prog w) A (eval elt (compEnvC scope cl C env)) (TurnEnd s₁ h₀ L m ((I, oI) :: (C, oC) :: (D, lst vs) :: news) (Out y)) E' { s₁ with heap := h, toks := tk })
    (fin : ∀ (g : Heap) (vs : List Value), vs.length = ys.length → (∀ (i : Nat) (q : PySem.Str × Tok) (v : Value), ys[i]? = some q → vs[i]? = some v → Out q.1 v) → Fin { s₁ with heap := g } vs news) :
    FromSrc prog w A h₀ L m env elt x scope cl Fin xv s₁ := by
  refine ⟨_, _, _, _, news, src, hS, by rw [vals_size, sizeLine_eq]; exact Nat.le_trans hsz (by decide), ?_⟩
  rintro s₂ ⟨g, rfl⟩
  have := rest_of (prog := prog) (w := w) (A := A) (h₀ := h₀) (L := L) (m := m) (env := env) (news := news) (s := { s₁ with heap := g }) (elt := elt) (x := x) (scope := scope) (cl := cl) (S := S) (P := fun i v => (strValues ys).toArray[i]? = some v) (Fin := Fin { s₁ with heap := g }) ys (fun q v => v = .str q.1 q.2) (fun q => Out q.1)
    (fun i v hv => by
      obtain ⟨y, t, h1, h2⟩ := vals_at hv
      exact ⟨(y, t), h1, h2⟩) hS
    (fun q v I oI C oC D m₂ vs h tk E' hc hv hC hx F' N' off ne => by
      subst hv
      exact wpAny_mono (turn q.1 q.2 I oI C oC D m₂ vs h tk E' hc hC hx F' N' off ne) (fun _ _ z => z.out) fun _ _ e => e)
    (fun vs h1 h2 => fin g vs h1 h2)
  rw [← vals_size] at this
  exact this
theorem bools_of_out {f : PySem.Str → Bool} : ∀ {ys : List (PySem.Str × Tok)} {vs : List Value}, vs.length = ys.length → (∀ (i : Nat) (q : PySem.Str × Tok) (v : Value), ys[i]? = some q → vs[i]? = some v → v = .bool (f q.1)) → vs = (ys.map fun q => f q.1).map Value.bool := by
  intro ys
  induction ys with
  | nil =>
    intro vs h1 _
    cases vs with
    | nil => rfl
    | cons a r => simp at h1
  | cons q l ih =>
    intro vs h1 h2
    cases vs with
    | nil => simp at h1
    | cons a r =>
      have := h2 0 q a rfl rfl
      subst this
      rw [ih (vs := r) (by simpa using h1) fun i q' v e1 e2 => h2 (i + 1) q' v e1 e2]
      rfl
end
end Mine
end
section
open PySem PySem.W PyProof.Rows PySem.Calls
set_option autoImplicit false
namespace Mine
local macro_rules | `(tactic| walk_at "no such tree 0") => `(tactic| fail "none")
local macro_rules | `(tactic| walk_at "no such tree 1") => `(tactic| fail "none")
local macro_rules | `(tactic| walk_at "execs cons") => `(tactic| refine wpAny_execs_cons ?_)
local macro_rules | `(tactic| walk_at "TurnEnd") => `(tactic| (k_dflt (refine TurnEnd.mk' (by k_asm) (by k_asm) (by kcf_all) ?_); exact rfl))
local macro_rules | `(tactic| walk_at "eval BoolOp") => `(tactic| (k_dflt (refine' and3 (by k_asm) (by k_asm) ?_ ?_ ?_ ?_); kcf_last; all_goals (try (intros; k_fold))))
local macro_rules | `(tactic| walk_at "exec For") => `(tactic| refine stopHere ?_)
local macro_rules | `(tactic| walk_at "exec For Name Name cons nil") => `(tactic| refine stopHere ?_)
local macro_rules | `(tactic| k_all) => `(tactic| assumption)
theorem push_take {α : Type} {a : Array Value} {l : List α} {f : α → Value} {i : Nat} {q : α} (h : l[i]? = some q) : (a ++ ((l.take i).map f).toArray).push (f q) = a ++ ((l.take (i + 1)).map f).toArray := by
  rw [List.take_add_one, h]
  apply Array.toList_inj.mp
  simp
def aheadN (x : PySem.Str) : Int := (x.length : Int) - (Txt.lstripChars x (PySem.Str.ofString " ")).length
def behindN (x : PySem.Str) : Int := (x.length : Int) - (Txt.rstripChars x (PySem.Str.ofString " ")).length
def moreB (x : PySem.Str) : Bool := Txt.stripChars x (PySem.Str.ofString " ") != PySem.Str.ofString ""
abbrev frS (y : PySem.Str) : PySem.Str := PySem.Str.ofString " " ++ y ++ PySem.Str.ofString "  "
abbrev frN (y : PySem.Str) : Nat := (PySem.Str.ofString " ").length + y.length + (PySem.Str.ofString "  ").length
def toldB (x y : PySem.Str) : Bool := (Txt.slice x none (some ((frN y : Nat) : Int)) == frS y) && decide (((frN y : Nat) : Int) < (x.length : Int)) && decide (behindN x < 2)
local macro_rules | `(tactic| walk_at "call builtin:list.append") => `(tactic| (k_dflt (refine append_K (by k_asm) (by k_asm) (by k_upd) ?_ (hsz := by assumption)); intro h' F' N'))
def toldL (x : PySem.Str) (ys : List PySem.Str) : List Bool := [moreB x && (aheadN x == 2) && (behindN x == 2), moreB x && (aheadN x == 1) && (behindN x == 1)] ++ ys.map (toldB x)
set_option maxRecDepth 100000 in
set_option maxHeartbeats 8000000 in
theorem told_tells : ∀ (w : World) (x : PySem.Str) (_ : x.length ≤ 20) (ys : List (PySem.Str × Tok)) (_ : ∀ q ∈ ys, q.1.length ≤ 10) (_ : ys.length ≤ 8) (tk : Tok) (P : Addr) (k : Nat) (p : Program) (loose : List PySem.Str) (mean : ExcName → Option Value) (mg mb : PySem.Str → Option Value) (dp un : Nat) (gd : Option (List Code)) (cn : PySem.Str) (cs : Scope) (a : Addr) (ccd : Value) (cl : List (PySem.Str × Addr)) (outer : List Env) (A₀ : Around) (base h₀ : Heap) (L : Addr) (m : PySem.Str → Option Value) (news : List (Addr × Obj)) (s : Shared)
    (Q E : Value → Shared → Prop) (_ : Below A₀ base outer h₀) (_ : Fr h₀ L s.heap m) (_ : (hd.heap_39 w.params).In h₀) (_ : News h₀ L s.heap ((P, tupS ys k) :: news)) (_ : Top p loose mean mg mb h₀) (_ : cs.kind = .function) (_ : dp + 4 < recursionLimit) (_ : un + 40 < cLine)
    (_ : ∀ (D : Addr) (h' : Heap) (tk' : Nat) (k' : Nat), Fr h₀ L h' m → News h₀ L h' ((D, ({ cls := .type "list", data := .seq ((toldL x (ys.map (·.1))).map Value.bool).toArray k' } : Obj)) :: (P, tupS ys k) :: news) → Q (.ref D) { s with heap := h', toks := tk' }),
    wpAny (model PySem.Challenge.rw_ik0023_01.row.prog w) (ktrTop dp un gd cn cs L a ccd cl outer) (call (.ref 138) [.str x tk, .ref P]) Q E s := by
  w_top off
  k_fill
  intro w x hx ys hys hyl tk P k p loose mean mg mb dp un gd cn cs a ccd cl outer A₀ base h₀ L m news s Q E hB hF hX hN hT hk hdp hun hret
  refine wpAny_call ?_
  k_dflt ktr_enter
  k_steps
  unfold Stop
  rename_i l9 h8 l1 h9 F9 N9
  refine for_src [PySem.Str.ofString "front"] (fun i nx => ∃ k', nx = (l9, listOf (#[Value.bool (moreB x && (aheadN x == 2) && (behindN x == 2)), Value.bool (moreB x && (aheadN x == 1) && (behindN x == 1))] ++ ((ys.take i).map fun q => Value.bool (toldB x q.1)).toArray) k') :: (P, tupS ys k) :: news) (by k_asm) (by rfl) (by rfl) ?_
  walk1
  refine ⟨[P], _, _, _, _, src_tup (by rfl) (by k_asm) (by k_asm) (by k_mem), ?_, ⟨0, ?_⟩, ?_, ?_⟩
  · intro b hb e
    rw [List.mem_singleton.mp hb] at e
    exact (N9 (P, tupS ys k) (.tail _ (.head _))).2.1 e
  · rw [List.take_zero, List.map_nil]
    rfl
  · intro i v u h tk1 own nx hi hP hJ hadr hsep F1 N1
    obtain ⟨k', rfl⟩ := hJ
    obtain ⟨y, t, hy, rfl⟩ := vals_at hP
    have hyb : y.length ≤ 10 := hys _ (List.mem_of_getElem? hy)
    have hPl : P ≠ l9 := Nat.ne_of_lt l1.1
    have hoff : ∀ p ∈ news ++ own, p.1 ≠ l9 := by
      intro p hp
      rcases List.mem_append.mp hp with hp | hp
      · exact Nat.ne_of_lt (AllLt.mem l1.2 p hp)
      · rcases hsep p hp with e | e
        · exact fun e2 => e _ (.head _) e2.symm
        · rw [List.mem_singleton.mp e]; exact hPl
    have hsz9 : (#[Value.bool (moreB x && (aheadN x == 2) && (behindN x == 2)), Value.bool (moreB x && (aheadN x == 1) && (behindN x == 1))] ++ ((ys.take i).map fun q => Value.bool (toldB x q.1)).toArray).size ≤ sizeLine := by
      rw [sizeLine_eq]; simp; omega
    simp only [List.cons_append] at N1
    clear N9 F9
    k_steps
    rename_i F2 N2
    refine ForEnd.next ((l9, listOf ((#[Value.bool (moreB x && (aheadN x == 2) && (behindN x == 2)), Value.bool (moreB x && (aheadN x == 1) && (behindN x == 1))] ++ ((ys.take i).map fun q => Value.bool (toldB x q.1)).toArray).push (Value.bool (toldB x y))) (k' + 1)) :: (P, tupS ys k) :: news) (by assumption) N2 (fun p hp => hp) rfl (fun z h1 h2 => ?_) ⟨k' + 1, ?_⟩
    · have h3 : z ≠ PySem.Str.ofString "front" := fun e => by subst e; exact absurd h2 (by decide)
      simp only [if_neg h1, if_neg h3, h2]
      rfl
    · have := push_take (a := #[Value.bool (moreB x && (aheadN x == 2) && (behindN x == 2)), Value.bool (moreB x && (aheadN x == 1) && (behindN x == 1))]) (f := fun q => Value.bool (toldB x q.1)) hy
      exact congrArg (fun z => (l9, listOf z (k' + 1)) :: (P, tupS ys k) :: news) this
  · intro u h tk1 nx hJ F1 N1
    obtain ⟨k', rfl⟩ := hJ
    clear N9 F9
    k_steps
    refine hret _ _ _ k' (by assumption) ?_
    have e : (#[Value.bool (moreB x && (aheadN x == 2) && (behindN x == 2)), Value.bool (moreB x && (aheadN x == 1) && (behindN x == 1))] ++ ((ys.take (strValues ys).toArray.size).map fun q => Value.bool (toldB x q.1)).toArray) = ((toldL x (ys.map (·.1))).map Value.bool).toArray := by
      rw [vals_size, List.take_length]
      apply Array.toList_inj.mp
      simp [toldL, Function.comp_def]
    rw [← e]
    assumption
end Mine
end
section
open PySem PySem.W PyProof.Rows PySem.Calls
set_option autoImplicit false
namespace Mine
local macro_rules | `(tactic| walk_at "no such tree 0") => `(tactic| fail "none")
local macro_rules | `(tactic| walk_at "no such tree 1") => `(tactic| fail "none")
local macro_rules | `(tactic| walk_at "no such tree 2") => `(tactic| fail "none")
local macro_rules | `(tactic| walk_at "no such tree 3") => `(tactic| fail "none")
local macro_rules | `(tactic| walk_at "execs cons") => `(tactic| refine wpAny_execs_cons ?_)
local macro_rules | `(tactic| walk_at "TurnEnd") => `(tactic| (k_dflt (refine TurnEnd.mk' (by k_asm) (by k_asm) (by kcf_all) ?_); exact rfl))
local macro_rules | `(tactic| walk_at "eval ListComp") => `(tactic| (k_dflt (refine comp_src (by k_asm) (by with_unfolding_all rfl) (by decide) (by rfl) (by decide) (by rfl) ?_)))
def kindsL (x : PySem.Str) (ys : List PySem.Str) : List Bool := [dunderT x, sunderT x] ++ ys.map fun y => privT y x
local macro_rules | `(tactic| walk_at "call ref") => `(tactic| (k_dflt (first
  | (refine dunder_tells _ _ (by assumption) _ _ _ _ _ _ _ _ _ _ _ _ _ _ _ _ _ _ _ _ _ _ _ _ (by k_asm) (by k_asm) (by k_asm) (by k_asm) (by k_asm) (by first | exact rfl | assumption) (by ktr_room) (by ktr_units) ?_; intro v' h' tk' e' F' N'; subst e')
  | (refine sunder_tells _ _ (by assumption) _ _ _ _ _ _ _ _ _ _ _ _ _ _ _ _ _ _ _ _ _ _ _ _ (by k_asm) (by k_asm) (by k_asm) (by k_asm) (by k_asm) (by first | exact rfl | assumption) (by ktr_room) (by ktr_units) ?_; intro v' h' tk' e' F' N'; subst e')
  | (refine private_tells _ _ (by assumption) _ (by assumption) _ _ _ _ _ _ _ _ _ _ _ _ _ _ _ _ _ _ _ _ _ _ _ _ _ (by k_asm) (by k_asm) (by k_asm) (by k_asm) (by k_asm) (by first | exact rfl | assumption) (by ktr_room) (by ktr_units) ?_; intro v' h' tk' e' F' N'; subst e')); (try dsimp only)))
local macro_rules | `(tactic| walk_at "FromSrc") => `(tactic| refine stopHere ?_)
set_option maxRecDepth 100000 in
set_option maxHeartbeats 8000000 in
theorem kinds_tells : ∀ (w : World) (x : PySem.Str) (_ : x.length ≤ 200) (ys : List (PySem.Str × Tok)) (_ : ∀ q ∈ ys, q.1.length ≤ 20) (_ : ys.length ≤ 1000) (tk : Tok) (O : Addr) (k : Nat) (p : Program) (loose : List PySem.Str) (mean : ExcName → Option Value) (mg mb : PySem.Str → Option Value) (dp un : Nat) (gd : Option (List Code)) (cn : PySem.Str) (cs : Scope) (a : Addr) (ccd : Value) (cl : List (PySem.Str × Addr)) (outer : List Env) (A₀ : Around) (base h₀ : Heap) (L : Addr) (m : PySem.Str → Option Value) (news : List (Addr × Obj)) (s : Shared)
    (Q E : Value → Shared → Prop) (_ : Below A₀ base outer h₀) (_ : Fr h₀ L s.heap m) (_ : (hd.heap_39 w.params).In h₀) (_ : News h₀ L s.heap ((O, lstS ys k) :: news)) (_ : Top p loose mean mg mb h₀) (_ : cs.kind = .function) (_ : dp + 12 < recursionLimit) (_ : un + 90 < cLine)
    (_ : ∀ (D : Addr) (h' : Heap) (tk' : Nat) (k' : Nat), Fr h₀ L h' m → News h₀ L h' ((D, ({ cls := .type "list", data := .seq ((kindsL x (ys.map (·.1))).map Value.bool).toArray k' } : Obj)) :: (O, lstS ys k) :: news) → Q (.ref D) { s with heap := h', toks := tk' }),
    wpAny (model PySem.Challenge.rw_ik0023_01.row.prog w) (ktrTop dp un gd cn cs L a ccd cl outer) (call (.ref 143) [.str x tk, .ref O]) Q E s := by
  w_top off
  k_fill
  intro w x hx ys hys hyl tk O k p loose mean mg mb dp un gd cn cs a ccd cl outer A₀ base h₀ L m news s Q E hB hF hX hN hT hk hdp hun hret
  refine wpAny_call ?_
  k_dflt (refine' code_defC ?k1 ?k2 ?k3 ?k4 ?k5 ?kA ?kF ?kK ?k6 ?k7 ?k8 ?k9 ?kB ?kD ?_ ?c2 ?c3 ?c4; (case kA => exact rfl); (case kF => exact rfl); (case kK => assumption); (case k1 => k_asm); (case k2 => k_asm); (case k3 => k_asm); (case k4 => k_asm); (case k5 => k_asm); (case k6 => k_is); (case k7 => k_is); (case k8 => ktr_room); (case k9 => exact BindsTo.of_eq rfl); (case kB => exact rfl); (case kD => decide +kernel); (case c2 => exact rfl); (case c3 => exact rfl); (case c4 => exact rfl); k_whole; intro g' L' h' tk' cells' FG' F' N' Y' B' X' T' l1; k_cells Y'; (try simp only [List.cons_append, List.nil_append] at N'); (try dsimp only); (try k_fold))
  k_steps
  unfold Stop
  refine from_seq ys (fun y v => v = Value.bool (privT y x)) (src_list (by rfl) (by k_asm) (by k_asm) (by k_mem)) (by k_mem) hyl ?_ ?_
  · intro y' u' I' oI' C' oC' D' m' vs' h' tk' E' hy' hC' hx' F' N' off' ne'
    have hyb' : y'.length ≤ 20 := hys _ hy'
    k_steps
  · intro g vs hvl hvo
    have hvs := bools_of_out (f := fun y => privT y x) hvl hvo
    have e : ((kindsL x (ys.map (·.1))).map Value.bool).toArray = ([Value.bool (dunderT x), Value.bool (sunderT x)] ++ vs).toArray := by
      rw [hvs]; simp [kindsL, Function.comp_def]
    k_steps
    refine hret _ _ _ 0 (by assumption) ?_
    rw [e]
    exact cb_drop (by assumption) (by kcf_all)
end Mine
end
section
open PySem PySem.W PyProof.Rows PySem.Calls
set_option autoImplicit false
set_option maxRecDepth 100000
namespace Mine
abbrev plainL (t1 t2 t3 t4 : Tok) : List (PySem.Str × Tok) := [(PySem.Str.ofString "C", t1), (PySem.Str.ofString "", t2), (PySem.Str.ofString " C", t3), (PySem.Str.ofString "_", t4)]
def Oct (x : PySem.Str) : Prop := ∀ c ∈ x.cps.toList, c < 256
theorem plain_ok {t1 t2 t3 t4 : Tok} : ∀ q ∈ plainL t1 t2 t3 t4, q.1.length ≤ 2 ∧ Oct q.1 := by
  have h : ∀ x ∈ [PySem.Str.ofString "C", PySem.Str.ofString "", PySem.Str.ofString " C", PySem.Str.ofString "_"], x.length ≤ 2 ∧ ∀ c ∈ x.cps.toList, c < 256 := by decide +kernel
  intro q hq
  have : q.1 ∈ [PySem.Str.ofString "C", PySem.Str.ofString "", PySem.Str.ofString " C", PySem.Str.ofString "_"] := by
    have := List.mem_map_of_mem (f := Prod.fst) hq
    exact this
  exact h _ this
theorem octB_size (x : PySem.Str) : (octB x).size = x.length := by
  unfold octB
  rw [byteArr_size, List.length_map]
  simp [PySem.Str.length]
/-- what the law cuts out of an owner's writing -/
def ownS (y : PySem.Str) : PySem.Str := Txt.slice (encW (PySem.Str.ofString "iso-8859-1") (octB y)) (some 15) (some (-2))
theorem strs_of_outS {g : PySem.Str → PySem.Str} : ∀ {ys : List (PySem.Str × Tok)} {vs : List Value}, vs.length = ys.length → (∀ (i : Nat) (q : PySem.Str × Tok) (v : Value), ys[i]? = some q → vs[i]? = some v → ∃ t, v = .str (g q.1) t) → ∃ vl : List (PySem.Str × Tok), vs = strValues vl ∧ vl.map (·.1) = ys.map fun q => g q.1 := by
  intro ys
  induction ys with
  | nil =>
    intro vs h1 _
    cases vs with
    | nil => exact ⟨[], rfl, rfl⟩
    | cons a r => simp at h1
  | cons q l ih =>
    intro vs h1 h2
    cases vs with
    | nil => simp at h1
    | cons a r =>
      obtain ⟨t, rfl⟩ := h2 0 q a rfl rfl
      obtain ⟨vl, e1, e2⟩ := ih (vs := r) (by simpa using h1) fun i q' v e1 e2 => h2 (i + 1) q' v e1 e2
      exact ⟨(g q.1, t) :: vl, by rw [e1]; rfl, by rw [List.map_cons, List.map_cons, e2]⟩
theorem encW_len {cset : PySem.Str} {b : Array UInt8} (hb : b.size ≤ 20) (hc : cset.length ≤ 20) : (encW cset b).length ≤ 100 := by
  unfold encW
  have e1 : PySem.Str.empty.length = 0 := by decide +kernel
  have e2 : (PySem.Str.ofString "=?").length = 2 := by decide +kernel
  have e3 : (PySem.Str.ofString "?q?").length = 3 := by decide +kernel
  have e4 : (PySem.Str.ofString "?=").length = 2 := by decide +kernel
  have e5 : (PySem.Str.ofString "").length = 0 := by decide +kernel
  have h := len_out unitS unitS_len (octs b)
  have h2 : (octs b).length = b.size := by simp [octs]
  have e6 : (⟨outOf unitS (octs b)⟩ : PySem.Str).length = (outOf unitS (octs b)).size := rfl
  split
  · omega
  · simp only [PySem.Str.length_append] 
    omega
theorem encW_fits {cset : PySem.Str} {b : Array UInt8} (hb : b.size ≤ 20) (hc : cset.length ≤ 20) : (encW cset b).length ≤ sizeLine := by
  rw [sizeLine_eq]; exact Nat.le_trans (encW_len hb hc) (by decide)
theorem ownS_len {y : PySem.Str} (hy : y.length ≤ 20) : (ownS y).length ≤ 100 := Nat.le_trans (PyProof.Txt.length_slice_le _ _ _) (encW_len (by rw [octB_size]; exact hy) (by decide +kernel))
end Mine
end
section
open PySem PySem.W PyProof.Rows PySem.Calls
set_option autoImplicit false
set_option maxRecDepth 100000
namespace Mine
/-- where a loop's source has been told: what is left is to tell what stays, the turn and the end -/
def ForPost (prog : Program) (w : World) (A : Around) (h₀ : Heap) (env : Env) (m₀ : PySem.Str → Option Value) (x : PySem.Str) (stores : List PySem.Str) (body : List Stmt) (E : Value → Shared → Prop) (Q : Flow → Shared → Prop) (xv : Value) (s₁ : Shared) : Prop :=
  ∃ (ex : List Addr) (n : Nat) (P : Nat → Value → Prop) (S : List (Addr × Obj) → Prop) (news : List (Addr × Obj)) (J : Nat → List (Addr × Obj) → Prop), Src prog w A h₀ env.locals m₀ ex n P S news xv s₁ ∧ (∀ b ∈ ex, b ≠ env.locals) ∧ J 0 news ∧
      (∀ i v (u : PySem.Str → Option Value) h tk own nx, i < n → P i v → J i nx → nx.map (·.1) = news.map (·.1) → (∀ p ∈ own, (∀ q ∈ nx, q.1 ≠ p.1) ∨ p.1 ∈ ex) →
        Fr h₀ env.locals h (fun y => if y = x then some v else if stores.contains y = true then u y else m₀ y) → News h₀ env.locals h (nx ++ own) →
        wpAny (model prog w) A (execs body env) (ForEnd h₀ env.locals m₀ x stores own nx (J (i + 1)) s₁ Q) E { s₁ with heap := h, toks := tk }) ∧
      (∀ (u : PySem.Str → Option Value) h tk nx, J n nx → Fr h₀ env.locals h (fun y => if y = x then u y else if stores.contains y = true then u y else m₀ y) → News h₀ env.locals h nx → Q .next { s₁ with heap := h, toks := tk })
section
variable {prog : Program} {w : World} {A : Around} {E : Value → Shared → Prop} {s : Shared} {h₀ : Heap} {env : Env} {m₀ : PySem.Str → Option Value}
theorem for_srcJ {x : PySem.Str} {px pos : Pos} {iter : Expr} {body : List Stmt} {Q : Flow → Shared → Prop} (stores : List PySem.Str)
    (F : Fr h₀ env.locals s.heap m₀) (hx : env.kindOf x = some .local) (hp : (env.scope.kind == .class || (env.scope.kind == .module && env.locals != env.globals)) = false)
    (h : wpAny (model prog w) A (eval iter env) (ForPost prog w A h₀ env m₀ x stores body E Q) E s)
    (hs : ∀ x, foldedSetIterable iter env x = pure x := by intro _; rfl)
    (hE : PassesOwn (model prog w) A env E := by passes_own) :
    wpAny (model prog w) A (exec (.For (.Name x px) iter body [] pos) env) Q E s := by
  refine For_invVF F hx hp (wpAny_mono h (fun xv s₁ h₁ => ?_) fun _ _ e => e) hs hE
  obtain ⟨ex, n, P, S, news, J, src, hex, hJ0, turn, done⟩ := h₁
  refine src _ _ fun I St h' W hIo hSt hst hfp F' N hIL hI₀ off => ?_
  let J' : Nat → (PySem.Str → Option Value) → List (Addr × Obj) → Prop := fun i m nx => nx.map (·.1) = news.map (·.1) ∧ (∀ z, z ≠ x → stores.contains z = false → m z = m₀ z) ∧ J i nx
  refine ⟨I, I :: ex, [I], n, P, St, m₀, news, J', rfl, W, ?_, ?_, ?_, hst, F', N, ⟨rfl, fun _ _ _ => rfl, hJ0⟩, ?_, ?_⟩
  · intro hm
    rcases List.mem_cons.mp hm with e | hm
    · exact hIL e
    · exact hex _ hm rfl
  · intro b hb
    rw [List.mem_singleton.mp hb]; exact hI₀
  · intro p hp hI
    exact off p hp (List.mem_singleton.mp hI)
  · rintro i v m₁ nx s₂ own ⟨g, tk, rfl⟩ hi hP ⟨hadr, hm, hJ⟩ hoff hown _ _ _ F₁ N₁
    have hnI : ∀ q ∈ nx, q.1 ≠ I := fun q hq e => hoff q hq (by rw [e]; exact List.mem_singleton.mpr rfl)
    have hsep : ∀ p ∈ own, (∀ q ∈ nx, q.1 ≠ p.1) ∨ p.1 ∈ ex := fun p hp => by
      rcases List.mem_cons.mp (hown p hp) with e | e
      · exact .inl fun q hq e2 => hnI q hq (e2.trans e)
      · exact .inr e
    have hfun : (fun y => if y = x then some v else m₁ y) = fun y => if y = x then some v else if stores.contains y = true then m₁ y else m₀ y := by
      funext y
      by_cases h1 : y = x
      · rw [if_pos h1, if_pos h1]
      · rw [if_neg h1, if_neg h1]
        cases h2 : stores.contains y with
        | true => rw [if_pos rfl]
        | false => rw [if_neg (by decide)]; exact hm y h1 h2
    rw [hfun] at F₁
    have N₂ : News h₀ env.locals g (nx ++ own) := fun p hp => N₁ p ((List.mem_append.mp hp).elim (fun h => List.mem_append.mpr (.inr h)) fun h => List.mem_append.mpr (.inl h))
    refine wpAny_mono (turn i v m₁ g tk own nx hi hP hJ hadr hsep F₁ N₂) (fun f s₃ z => ?_) fun _ _ e => e
    have fin : (∃ h' tk' m' nx', s₃ = { s₁ with heap := h', toks := tk' } ∧ Fr h₀ env.locals h' m' ∧ News h₀ env.locals h' (nx' ++ own) ∧ nx'.map (·.1) = nx.map (·.1) ∧ (∀ z, z ≠ x → stores.contains z = false → m' z = m₀ z) ∧ J (i + 1) nx') →
        LoopStepU h₀ env.locals [I] own (J' (i + 1)) { s₁ with heap := g, toks := tk } .next s₃ := by
      rintro ⟨h', tk', m', nx', e, F2, N2, ha, hm2, hJ2⟩
      refine ⟨rfl, h', tk', m', nx', e, F2, fun p hp => N2 p ((List.mem_append.mp hp).elim (fun h => List.mem_append.mpr (.inr h)) fun h => List.mem_append.mpr (.inl h)), fun p hp hq => ?_, ha.trans hadr, hm2, hJ2⟩
      have h1 : p.1 ∈ nx'.map (·.1) := List.mem_map.mpr ⟨p, hp, rfl⟩
      rw [ha] at h1
      obtain ⟨q, hq1, hq2⟩ := List.mem_map.mp h1
      exact hnI q hq1 (by rw [hq2]; exact List.mem_singleton.mp hq)
    have z' := z.out
    cases f with
    | ret v => exact .ret z'
    | brk => exact .brk z'
    | next => exact .next (fin z')
    | cont => exact .cont (fin z')
  · rintro h' tk m' nx F2 N2 _ ⟨_, hm2, hJ2⟩
    refine done m' h' tk nx hJ2 ?_ N2
    have hfun : m' = fun y => if y = x then m' y else if stores.contains y = true then m' y else m₀ y := by
      funext y
      by_cases h1 : y = x
      · rw [if_pos h1]
      · rw [if_neg h1]
        cases h2 : stores.contains y with
        | true => rw [if_pos rfl]
        | false => rw [if_neg (by decide)]; exact hm2 y h1 h2
    rw [hfun] at F2
    exact F2
theorem ints_at {l : List Int} : ∀ {ws : List Value} {i : Nat} {v : Value}, IntsAre ws l → ws.toArray[i]? = some v → ∃ z t, z ∈ l ∧ v = .int z t := by
  intro ws i v h e
  have e' : ws[i]? = some v := by simpa using e
  clear e
  induction h generalizing i with
  | nil => simp at e'
  | cons z t h ih =>
    cases i with
    | zero => exact ⟨z, t, .head _, by simpa using e'.symm⟩
    | succ i =>
      obtain ⟨z', t', h1, h2⟩ := ih (i := i) (by simpa using e')
      exact ⟨z', t', .tail _ h1, h2⟩
end
end Mine
end
section
open PySem PySem.W PyProof.Rows PySem.Calls
set_option autoImplicit false
set_option maxRecDepth 100000
namespace Mine
def Ready1 : Prop := True
def Ready2 : Prop := True
def Ready3 : Prop := True
def Ready4 : Prop := True
theorem Oct.append {x y : PySem.Str} (hx : Oct x) (hy : Oct y) : Oct (x ++ y) := by
  intro c hc
  rw [PySem.Str.cps_append, Array.toList_append] at hc
  rcases List.mem_append.mp hc with h | h
  · exact hx c h
  · exact hy c h
def PieceV (v : Value) : Prop := ∃ y t, v = .str y t ∧ Oct y ∧ y.length ≤ 3
theorem pieceV_lit {y : PySem.Str} {t : Tok} (h : (y.cps.toList.all (· < 256) && decide (y.length ≤ 3)) = true) : PieceV (.str y t) := by
  rw [Bool.and_eq_true] at h
  refine ⟨y, t, rfl, fun c hc => ?_, of_decide_eq_true h.2⟩
  exact of_decide_eq_true (List.all_eq_true.mp h.1 c hc)
theorem pieceV_chr {a : Int} {t : Tok} : PieceV (.str ⟨#[(a.fmod 256).toNat]⟩ t) := by
  refine ⟨_, t, rfl, fun c hc => ?_, by show 1 ≤ 3; decide⟩
  have h1 : 0 ≤ a.fmod 256 := fmod_lo a (by decide)
  have h2 : a.fmod 256 < 256 := fmod_hi a (by decide)
  have : c = (a.fmod 256).toNat := by simpa using hc
  omega
section
variable {prog : Program} {w : World} {A : Around} {E : Value → Shared → Prop} {s : Shared} {h₀ : Heap} {L : Addr} {m : PySem.Str → Option Value} {news : List (Addr × Obj)}
theorem item_piece {value slice : Expr} {a : Addr} {n : Nat} {v0 v1 v2 v3 v4 v5 v6 v7 : Value} {z : Int} {u : Tok} {Q : Value → Shared → Prop} (N : News h₀ L s.heap news)
    (hm : (a, ({ cls := .type "tuple", data := .seq #[v0, v1, v2, v3, v4, v5, v6, v7] n } : Obj)) ∈ news)
    (h0 : PieceV v0) (h1 : PieceV v1) (h2 : PieceV v2) (h3 : PieceV v3) (h4 : PieceV v4) (h5 : PieceV v5) (h6 : PieceV v6) (h7 : PieceV v7)
    (h : ∀ y t, Oct y → y.length ≤ 3 → Q (.str y t) s)
    (hs : subscripted slice false (.ref a) (.int (z.fmod 8) u) = operate [.ref a, .int (z.fmod 8) u] (getItem (.ref a) (.int (z.fmod 8) u)) := by with_unfolding_all rfl) :
    wpAny (model prog w) A (subscriptTail value slice (.ref a) (.int (z.fmod 8) u)) Q E s := by
  have k0 : 0 ≤ z.fmod 8 := fmod_lo z (by decide)
  have k1 : z.fmod 8 < 8 := fmod_hi z (by decide)
  have ht : IsTup s.heap a [v0, v1, v2, v3, v4, v5, v6, v7].toArray := News.isTup N hm
  obtain ⟨x, hx, hp⟩ : ∃ x, [v0, v1, v2, v3, v4, v5, v6, v7][(z.fmod 8).toNat]? = some x ∧ PieceV x := by
    have hlt : (z.fmod 8).toNat < 8 := by omega
    generalize (z.fmod 8).toNat = i at hlt
    match i, hlt with
    | 0, _ => exact ⟨_, rfl, h0⟩
    | 1, _ => exact ⟨_, rfl, h1⟩
    | 2, _ => exact ⟨_, rfl, h2⟩
    | 3, _ => exact ⟨_, rfl, h3⟩
    | 4, _ => exact ⟨_, rfl, h4⟩
    | 5, _ => exact ⟨_, rfl, h5⟩
    | 6, _ => exact ⟨_, rfl, h6⟩
    | 7, _ => exact ⟨_, rfl, h7⟩
    | n + 8, h => omega
  obtain ⟨y, t, rfl, o1, o2⟩ := hp
  exact item_tupleT ht (by omega) (by omega) (PySem.StrLaws.seqIndex_nonneg k0 (by simpa using k1)) hx (h y t o1 o2) hs
theorem mul_blanks {a : Int} {t u : Tok} {Q : Value → Shared → Prop} (h : ∀ y t' k, Oct y → y.length ≤ 3 → Q (.str y t') { s with toks := k }) : wpAny (model prog w) A (binaryOp .Mult (.str (PySem.Str.ofString " ") t) (.int (a.fmod 4) u)) Q E s := by
  have k0 : 0 ≤ a.fmod 4 := fmod_lo a (by decide)
  have k1 : a.fmod 4 < 4 := fmod_hi a (by decide)
  have e0 : PySem.Str.ofString " " = ⟨#[32]⟩ := by decide +kernel
  refine SB.mul (mulOk_of 16 1048576 (by decide +kernel) (by omega) (by omega) (by decide) (by decide)) fun t' k => h _ t' k ?_ ?_
  · intro c hc
    rw [e0, mul_one_list] at hc
    have := (List.mem_replicate.mp hc).2
    omega
  · have e := mul_one_list 32 (a.fmod 4)
    have e2 : (Txt.mul ⟨#[32]⟩ (a.fmod 4)).length = (Txt.mul ⟨#[32]⟩ (a.fmod 4)).cps.toList.length := by simp [PySem.Str.length]
    rw [e0, e2, e, List.length_replicate]
    omega
theorem add_oct {x y : PySem.Str} {t u : Tok} {K J : Nat} {Q : Value → Shared → Prop} (hx : Oct x) (hy : Oct y) (kx : x.length ≤ K) (ky : y.length ≤ J) (hs : K + J ≤ 20) (h : ∀ z t' k, Oct z → z.length ≤ K + J → Q (.str z t') { s with toks := k }) : wpAny (model prog w) A (binaryOp .Add (.str x t) (.str y u)) Q E s :=
  SBL.add (hsz := by rw [sizeLine_eq]; omega) fun t' k _ => h _ t' k (hx.append hy) (by rw [PySem.Str.length_append]; omega)
theorem iadd_oct {x y : PySem.Str} {t u : Tok} {K J : Nat} {Q : Value → Shared → Prop} (hx : Oct x) (hy : Oct y) (kx : x.length ≤ K) (ky : y.length ≤ J) (hs : K + J ≤ 20) (h : ∀ z t' k, Oct z → z.length ≤ 20 → Q (.str z t') { s with toks := k }) : wpAny (model prog w) A (inplaceOp .Add (.str x t) (.str y u)) Q E s :=
  SBL.iadd (hsz := by rw [sizeLine_eq]; omega) fun t' k _ => h _ t' k (hx.append hy) (by rw [PySem.Str.length_append]; omega)
end
/-- the writing's front for a charset's name -/
def frontS (cset : PySem.Str) : PySem.Str := PySem.Str.ofString "=?" ++ cset ++ PySem.Str.ofString "?q?"
def CsetOk (cset : PySem.Str) : Prop := cset = PySem.Str.ofString "x-1" ∨ cset = PySem.Str.ofString "iso-8859-1"
structure WordEnd (s₁ : Shared) (h₀ : Heap) (L : Addr) (m : PySem.Str → Option Value) (led : List (Addr × Obj)) (x : PySem.Str) (f : Flow) (s₂ : Shared) : Prop where
  out : f = .next ∧ ∃ h' tk' cset t1 t2, CsetOk cset ∧ s₂ = { s₁ with heap := h', toks := tk' } ∧ Fr h₀ L h' (fun y => if y = PySem.Str.ofString "word" then some (.str (encW cset (octB x)) t1) else if y = PySem.Str.ofString "front" then some (.str (frontS cset) t2) else m y) ∧ News h₀ L h' led
theorem WordEnd.mk' {s₁ : Shared} {h₀ h' : Heap} {L : Addr} {m : PySem.Str → Option Value} {led all : List (Addr × Obj)} {x fr cset : PySem.Str} {t1 t2 : Tok} {tk' : Nat} (F : Fr h₀ L h' (fun y => if y = PySem.Str.ofString "word" then some (.str (encW cset (octB x)) t1) else if y = PySem.Str.ofString "front" then some (.str fr t2) else m y)) (N : News h₀ L h' all) (hs : ∀ p ∈ led, p ∈ all) (hc : CsetOk cset) (hf : fr = frontS cset) : WordEnd s₁ h₀ L m led x .next { s₁ with heap := h', toks := tk' } := by
  subst hf
  exact ⟨rfl, _, _, cset, t1, t2, hc, rfl, F, fun p hp => N p (hs p hp)⟩
theorem cut_word {M : Model} {A : Around} {E : Value → Shared → Prop} {s : Shared} {h₀ : Heap} {L : Addr} {m : PySem.Str → Option Value} {led : List (Addr × Obj)} (x : PySem.Str) {Q : Flow → Shared → Prop} {c : Sem Flow} (_ : Fr h₀ L s.heap m) (_ : News h₀ L s.heap led) (h : wpAny M A c (WordEnd s h₀ L m led x) E s)
    (k : ∀ h' tk' cset t1 t2, CsetOk cset → Fr h₀ L h' (fun y => if y = PySem.Str.ofString "word" then some (.str (encW cset (octB x)) t1) else if y = PySem.Str.ofString "front" then some (.str (frontS cset) t2) else m y) → News h₀ L h' led → Q .next { s with heap := h', toks := tk' }) : wpAny M A c Q E s := by
  refine wpAny_mono h (fun f s₂ z => ?_) fun _ _ e => e
  obtain ⟨rfl, h', tk', cset, t1, t2, hc, rfl, F, N⟩ := z.out
  exact k h' tk' cset t1 t2 hc F N
theorem front_x : PySem.Str.ofString "=?x-1?q?" = frontS (PySem.Str.ofString "x-1") := by decide +kernel
theorem front_i : PySem.Str.ofString "=?iso-8859-1?q?" = frontS (PySem.Str.ofString "iso-8859-1") := by decide +kernel
theorem CsetOk.len {c : PySem.Str} (h : CsetOk c) : c.length ≤ 20 := by
  rcases h with rfl | rfl <;> decide +kernel
theorem cx_len : (PySem.Str.ofString "x-1").length ≤ 20 := by decide +kernel
theorem cset_x : CsetOk (PySem.Str.ofString "x-1") := .inl rfl
theorem cset_i : CsetOk (PySem.Str.ofString "iso-8859-1") := .inr rfl
theorem octB_le {x : PySem.Str} (h : x.length ≤ 20) : (octB x).size ≤ 20 := by rw [octB_size]; exact h
section
variable {prog : Program} {w : World} {A : Around} {E : Value → Shared → Prop} {s s₁ : Shared} {h₀ : Heap} {L : Addr} {m : PySem.Str → Option Value} {env : Env} {news : List (Addr × Obj)}
theorem src_range {r : Addr} {n : Nat} {t₀ u₀ v₀ : Tok} (hh : A.handled = none) (F : Fr h₀ L s₁.heap m) (N : News h₀ L s₁.heap news) (hr : IsRange s₁.heap r 0 (n : Int) 1 t₀ u₀ v₀) (hz : n ≤ 1000) :
    Src prog w A h₀ L m [] n (fun i v => i < n ∧ ∃ t, v = .int (i : Int) t) (fun _ => True) news (.ref r) s₁ := by
  intro Q E hQ
  have hsm : Builtin.Range.small 0 (n : Int) 1 = true := small_one (by decide) (by decide) (by omega) (by omega)
  have hn : Builtin.Range.rangeSize 0 (n : Int) 1 = (n : Int) := by
    rw [rangeSize_nat]
    simp
  refine wpAny_pyIter_range hr hsm ?_
  have W : Walks prog w A s₁.heap.objs.size [s₁.heap.objs.size] [s₁.heap.objs.size] n (fun i v => i < n ∧ ∃ t, v = .int (i : Int) t)
      (fun i h => IsRangeIter h s₁.heap.objs.size (0 + (i : Nat) * 1) ((n : Int) - (i : Nat)) 1) := by
    have W := (Walks.range (prog := prog) (w := w) (A := A) hh s₁.heap.objs.size 0 1 n).bound
    refine ⟨W.sub, W.frame, fun i s Q E hi hst h => W.item i s Q E hi hst fun v h' tk hv => h v h' tk ⟨hv.1, ?_⟩, W.done, W.self⟩
    obtain ⟨_, t, rfl⟩ := hv
    exact ⟨t, by rw [show (0 : Int) + (i : Int) * 1 = (i : Int) by omega]⟩
  refine hQ _ _ _ W (fun i h st => ⟨_, st⟩) (fun i h h' o nw st e e' _ _ _ => ?_) (by show IsRangeIter _ _ _ _ _; rw [hn]; simpa using Heap.get?_push_size _ rfl) (fun b hb => ?_) (F.push _) (N.grown fun _ _ e => Heap.get?_push_of_some _ e) (Nat.ne_of_lt F.ns.lt) (next_is_new F) (fun p hp => Nat.ne_of_lt (Heap.lt_size (N p hp).1))
  · exact W.frame _ _ _ st fun b hb o' eo => by
      rw [List.mem_singleton.mp hb] at eo ⊢
      rw [e] at eo; cases eo; exact e'
  · rw [List.mem_singleton.mp hb]
    show s₁.heap.objs.size < (s₁.heap.push _).objs.size
    rw [Heap.size_push]; exact Nat.lt_succ_self _
/-- texts whose lengths are bounded, one behind the other -/
theorem add_le {x y : PySem.Str} {t u : Tok} {K J : Nat} {Q : Value → Shared → Prop} (kx : x.length ≤ K) (ky : y.length ≤ J) (hs : K + J ≤ 1000) (h : ∀ t' k, (x ++ y).length ≤ K + J → Q (.str (x ++ y) t') { s with toks := k }) : wpAny (model prog w) A (binaryOp .Add (.str x t) (.str y u)) Q E s :=
  SBL.add (hsz := by rw [sizeLine_eq]; omega) fun t' k _ => h t' k (by rw [PySem.Str.length_append]; omega)
end
theorem frontS_len {c : PySem.Str} (h : CsetOk c) : (frontS c).length ≤ 25 := by
  rcases h with rfl | rfl <;> decide +kernel
theorem unitsT_len {x : PySem.Str} (h : x.length ≤ 20) : (⟨outOf unitS x.cps.toList⟩ : PySem.Str).length ≤ 60 := by
  have h1 := len_out unitS unitS_len x.cps.toList
  have e1 : (⟨outOf unitS x.cps.toList⟩ : PySem.Str).length = (outOf unitS x.cps.toList).size := rfl
  have e2 : x.cps.toList.length = x.length := by simp [PySem.Str.length]
  omega
theorem qe_len : (PySem.Str.ofString "?=").length ≤ 2 := by decide +kernel
theorem encW_len2 {x c : PySem.Str} (hx : x.length ≤ 20) (h : CsetOk c) : (encW c (octB x)).length ≤ 100 := encW_len (octB_le hx) h.len
end Mine
end
section
open PySem PySem.W PyProof.Rows PySem.Calls
set_option autoImplicit false
set_option maxRecDepth 100000
namespace Mine
theorem News.dup {h₀ h : Heap} {L : Addr} {news : List (Addr × Obj)} {p : Addr × Obj} (N : News h₀ L h news) (hm : p ∈ news) : News h₀ L h (p :: news) := by
  intro q hq
  rcases List.mem_cons.mp hq with rfl | hq
  · exact N _ hm
  · exact N _ hq
/-- a statement that leaves names and ledger as they were -/
structure KeepEnd (s₁ : Shared) (h₀ : Heap) (L : Addr) (m : PySem.Str → Option Value) (led : List (Addr × Obj)) (f : Flow) (s₂ : Shared) : Prop where
  out : f = .next ∧ ∃ h' tk', s₂ = { s₁ with heap := h', toks := tk' } ∧ Fr h₀ L h' m ∧ News h₀ L h' led
theorem KeepEnd.mk' {s₁ : Shared} {h₀ h' : Heap} {L : Addr} {m : PySem.Str → Option Value} {led all : List (Addr × Obj)} {tk' : Nat} (F : Fr h₀ L h' m) (N : News h₀ L h' all) (hs : ∀ p ∈ led, p ∈ all) : KeepEnd s₁ h₀ L m led .next { s₁ with heap := h', toks := tk' } :=
  ⟨rfl, _, _, rfl, F, fun p hp => N p (hs p hp)⟩
theorem cut_keep {M : Model} {A : Around} {E : Value → Shared → Prop} {s : Shared} {h₀ : Heap} {L : Addr} {m : PySem.Str → Option Value} {led : List (Addr × Obj)} {Q : Flow → Shared → Prop} {c : Sem Flow} (_ : Fr h₀ L s.heap m) (_ : News h₀ L s.heap led) (h : wpAny M A c (KeepEnd s h₀ L m led) E s)
    (k : ∀ h' tk', Fr h₀ L h' m → News h₀ L h' led → Q .next { s with heap := h', toks := tk' }) : wpAny M A c Q E s := by
  refine wpAny_mono h (fun f s₂ z => ?_) fun _ _ e => e
  obtain ⟨rfl, h', tk', rfl, F, N⟩ := z.out
  exact k h' tk' F N
section
variable {prog : Program} {w : World} {A : Around} {E : Value → Shared → Prop} {s : Shared} {h₀ : Heap} {L : Addr} {m : PySem.Str → Option Value} {news : List (Addr × Obj)}
theorem ne_same {x y : PySem.Str} {t u : Tok} {Q : Value → Shared → Prop} (e : x = y) (h : Q (.bool false) s) : wpAny (model prog w) A (compareOp .NotEq (.str x t) (.str y u)) Q E s := by
  refine PyProof.Rows.ne_str ?_
  subst e
  rw [bne_self_eq_false]
  exact h
theorem isnot_same {a b : Bool} {Q : Value → Shared → Prop} (e : a = b) (h : Q (.bool false) s) : wpAny (model prog w) A (compareOp .IsNot (.bool a) (.bool b)) Q E s := by
  refine isnot_bool ?_
  subst e
  rw [bne_self_eq_false]
  exact h
theorem item_at {x : PySem.Str} {i c : Nat} (h : x.cps.toList[i]? = some c) : Txt.item x (i : Int) = ⟨#[c]⟩ := by
  have hlt : i < x.length := by
    have := (List.getElem?_eq_some_iff.mp h).1
    simpa [PySem.Str.length] using this
  have e : Txt.charAt x (i : Int) = some c := by
    unfold Txt.charAt
    rw [PySem.StrLaws.seqIndex_nonneg (by omega) (by omega)]
    simpa using h
  unfold Txt.item
  rw [e]
  rfl
theorem item_c {value slice : Expr} {x : PySem.Str} {t u : Tok} {i c : Nat} {Q : Value → Shared → Prop} (hc : x.cps.toList[i]? = some c) (hz : x.length ≤ 20) (h : ∀ t' k, Q (.str ⟨#[c]⟩ t') { s with toks := k })
    (hs : subscripted slice false (.str x t) (.int (i : Int) u) = operate [.str x t, .int (i : Int) u] (getItem (.str x t) (.int (i : Int) u)) := by with_unfolding_all rfl)
    (ht : ∀ r, letTemporaryGo value (.str x t) r = pure () := by intro _; with_unfolding_all rfl) :
    wpAny (model prog w) A (subscriptTail value slice (.str x t) (.int (i : Int) u)) Q E s := by
  have hlt : i < x.length := by
    have := (List.getElem?_eq_some_iff.mp hc).1
    simpa [PySem.Str.length] using this
  refine item_str (fitsSsize_of (N := 9223372036854775808) (by omega) (by omega) (Int.le_refl _)) (by omega) (by omega) (fun _ => ?_) hs ht
  rw [item_at hc]
  exact h _ _
end
/-- a list of truth values as str writes it -/
def strB (bs : List Bool) : PySem.Str := (PyData.list (bs.map .bool)).shown
section
variable {prog : Program} {w : World} {A : Around} {E : Value → Shared → Prop} {s : Shared} {h₀ : Heap} {L : Addr} {m : PySem.Str → Option Value} {news : List (Addr × Obj)}
theorem reads_bools {h : Heap} : ∀ (bs : List Bool), ReadsAll h (bs.map Value.bool) (bs.map PyData.bool) []
  | [] => .nil
  | b :: r => .cons (as := []) (bs := []) (.bool b) (reads_bools r)
theorem bools_facts : ∀ (bs : List Bool), PyData.hasDictAll (bs.map .bool) = false ∧ PyData.showableAll (bs.map .bool) = true ∧ PyData.depthAll (bs.map .bool) = 0 ∧ PyData.leavesShortAll 13 (bs.map .bool) = true ∧ PyData.bulkAll (bs.map .bool) ≤ 20 * bs.length
  | [] => by decide
  | b :: r => by
    obtain ⟨h1, h2, h3, h4, h5⟩ := bools_facts r
    rw [List.map_cons, List.length_cons]
    simp only [PyData.hasDictAll, PyData.showableAll, PyData.depthAll, PyData.leavesShortAll, PyData.bulkAll, PyData.hasDict, PyData.showable, PyData.depth, PyData.leavesShort, PyData.bulk, h1, h2, h3, h4]
    refine ⟨rfl, rfl, rfl, rfl, ?_⟩
    omega
theorem str_bools {D : Addr} {bs : List Bool} {k : Nat} {Q : Value → Shared → Prop} (F : Fr h₀ L s.heap m) (N : News h₀ L s.heap news) (hm : (D, ({ cls := .type "list", data := .seq (bs.map Value.bool).toArray k } : Obj)) ∈ news) (hl : bs.length ≤ 10)
    (hg : A.guards = some []) (hu : A.units + 10 < cLine) (h : ∀ h' u tk, Fr h₀ L h' m → News h₀ L h' news → Q (.str (strB bs) u) { s with heap := h', toks := tk }) : wpAny (model prog w) A (call (.type "str") [.ref D]) Q E s := by
  obtain ⟨f1, f2, f3, f4, f5⟩ := bools_facts bs
  refine str_HN (d := PyData.list (bs.map .bool)) (as := [D]) F N (.list (N _ hm).1 rfl rfl (reads_bools bs)) (by simpa only [PyData.hasDict] using f1) (by simpa only [PyData.showable] using f2) hg (by simp only [PyData.depth, f3]; omega) h
    (hsz := PyData.shown_fits_bulk (B := 13) (by decide) (by decide) (by simpa only [PyData.leavesShort] using f4) ?_)
  simp only [PyData.bulk]
  omega
end
end Mine
end
section
open PySem PySem.W PyProof.Rows PySem.Calls
set_option autoImplicit false
set_option maxRecDepth 100000
namespace Mine
abbrev eS (x : PySem.Str) : PySem.Str := ⟨outOf unitS x.cps.toList⟩
abbrev xS (x : PySem.Str) : PySem.Str := ⟨outOf excS x.cps.toList⟩
theorem cpl_eS (x : PySem.Str) : cpl (eS x) = (cpl x).flatMap unit := by
  show (outOf unitS x.cps.toList).toList = _
  unfold outOf
  rw [List.toList_toArray]
  rfl
theorem cpl_xS (x : PySem.Str) : cpl (xS x) = (cpl x).flatMap fun c => [exc c] := by
  show (outOf excS x.cps.toList).toList = _
  unfold outOf
  rw [List.toList_toArray]
  rfl
theorem octs_octB {x : PySem.Str} (hx : Oct x) : octs (octB x) = cpl x := by
  unfold octs octB byteArr
  rw [List.toList_toArray, List.map_map, List.map_map]
  conv => rhs; rw [← List.map_id (cpl x)]
  refine List.map_congr_left fun c hc => ?_
  have := hx c hc
  show ((c : Int).toNat.toUInt8).toNat = c
  rw [Int.toNat_natCast]
  show c % 256 = c
  omega
theorem ne_nil_of {x : PySem.Str} (h : (x != PySem.Str.ofString "") = true) : cpl x ≠ [] := by
  intro e
  have e0 : cpl (PySem.Str.ofString "") = [] := by decide +kernel
  rw [str_bne, e, e0] at h
  cases h
theorem nil_of {x : PySem.Str} (h : (x != PySem.Str.ofString "") = false) : cpl x = [] := by
  have e0 : cpl (PySem.Str.ofString "") = [] := by decide +kernel
  rw [str_bne, e0] at h
  simpa using h
theorem encW_some {x cset : PySem.Str} (hx : Oct x) (h : cpl x ≠ []) : encW cset (octB x) = frontS cset ++ eS x ++ PySem.Str.ofString "?=" := by
  unfold encW frontS
  rw [octB_size, if_neg (fun e => h (List.eq_nil_of_length_eq_zero (by rw [cpl_len]; exact e))), octs_octB hx, Str.empty_append]
theorem encW_none {x cset : PySem.Str} (h : cpl x = []) : encW cset (octB x) = PySem.Str.ofString "" := by
  unfold encW
  rw [octB_size, if_pos (by rw [← cpl_len, h]; rfl)]
theorem word_is {x cset : PySem.Str} (_ : CsetOk cset) (hx : Oct x) (h : (x != PySem.Str.ofString "") = true) : encW cset (octB x) = frontS cset ++ ⟨outOf unitS x.cps.toList⟩ ++ PySem.Str.ofString "?=" :=
  encW_some hx (ne_nil_of h)
theorem word_nil {x cset : PySem.Str} (h : (x != PySem.Str.ofString "") = false) : encW cset (octB x) = PySem.Str.ofString "" := encW_none (nil_of h)
theorem check_is {c : Nat} (_ : c < 256) : (!(unit c == [c])) = (unitS c != ⟨#[c]⟩) := by
  rw [str_bne]
  rfl
theorem slice_word {x cset : PySem.Str} (_ : CsetOk cset) (hx : Oct x) : Txt.slice (encW cset (octB x)) (some ((frontS cset).length : Int)) (some (-2)) = eS x := by
  by_cases h : cpl x = []
  · rw [encW_none h, slice_nil]
    apply str_eq
    rw [cpl_eS, h]
    decide +kernel
  · rw [encW_some hx h]
    exact slice_mid (by decide +kernel)
theorem own_len : ∀ x ∈ [PySem.Str.ofString "C", PySem.Str.ofString "", PySem.Str.ofString " C", PySem.Str.ofString "_"], (ownS x).length ≤ 10 := by decide +kernel
theorem exc_len : ∀ x ∈ [PySem.Str.ofString "C", PySem.Str.ofString "", PySem.Str.ofString " C", PySem.Str.ofString "_"], (xS x).length ≤ 10 := by decide +kernel
def unhx (n : Nat) : Nat := if n < 58 then n - 48 else n - 55
def dcd (l : List Nat) : Nat := if l.getD 0 0 = 95 then 32 else if l.getD 0 0 = 61 then 16 * unhx (l.getD 1 0) + unhx (l.getD 2 0) else l.getD 0 0
theorem safe_off : ∀ c, c < 256 → safe c = true → c ≠ 95 ∧ c ≠ 61 := by decide +kernel
theorem hx_off : ∀ c, c < 256 → 16 * unhx (hx (c / 16)) + unhx (hx (c % 16)) = c := by decide +kernel
theorem dcd_unit {c : Nat} (h : c < 256) (t : List Nat) : dcd (unit c ++ t) = c := by
  unfold unit
  split
  · rename_i e; subst e; rfl
  · split
    · rename_i e
      obtain ⟨h1, h2⟩ := safe_off c h e
      show (if c = 95 then 32 else if c = 61 then _ else c) = c
      rw [if_neg h1, if_neg h2]
    · exact hx_off c h
theorem reads_unit : Reads unit where
  blank := by decide
  free := by decide +kernel
  ne := by decide +kernel
  pre := by
    rintro a b ha hb s t ⟨r, e⟩
    have h1 := congrArg dcd e
    rw [List.append_assoc, dcd_unit ha, dcd_unit hb] at h1
    subst h1
    rw [List.append_assoc] at e
    exact ⟨rfl, r, List.append_cancel_left e⟩
theorem exc_exc (c : Nat) : exc (exc c) = c := by
  unfold exc
  by_cases h1 : c = 32
  · subst h1; rfl
  · by_cases h2 : c = 95
    · subst h2; rfl
    · rw [if_neg h1, if_neg h2, if_neg h1, if_neg h2]
theorem reads_exc : Reads fun c => [exc c] where
  blank := by decide
  free := by
    intro c _ h1 h2
    have h3 : 95 = exc c := List.mem_singleton.mp h2
    have := congrArg exc h3
    rw [exc_exc] at this
    exact h1 this.symm
  ne := fun _ _ h => nomatch h
  pre := by
    rintro a b _ _ s t ⟨r, e⟩
    injection e with h1 h2
    have := congrArg exc h1
    rw [exc_exc, exc_exc] at this
    exact ⟨this, r, h2⟩
theorem natEq (n k : Nat) : ((n : Int) == (k : Int)) = (n == k) := by
  rw [Bool.eq_iff_iff, beq_iff_eq, beq_iff_eq]
  omega
section
variable {g : Nat → List Nat} (G : Reads g) {x z : PySem.Str} (hx : Oct x) (hz : cpl z = (cpl x).flatMap g)
include G hx hz
theorem dunder_gen : dunderT z = (moreB x && (aheadN x == 2) && (behindN x == 2)) := by
  have e1 : dunderT z = dunderT' z := rfl
  have e2 : moreB x = more 32 (cpl x) := more_is x
  have e3 : aheadN x = (lead 32 (cpl x) : Nat) := lead_is x
  have e4 : behindN x = (trail 32 (cpl x) : Nat) := trail_is x
  rw [e1, dunder_txt, dunder_is, hz, more_flat G.toWrites hx, lead_flat G.toWrites hx, trail_flat G.toWrites hx, e2, e3, e4]
  rw [← natEq, ← natEq]
  rfl
theorem sunder_gen : sunderT z = (moreB x && (aheadN x == 1) && (behindN x == 1)) := by
  have e1 : sunderT z = sunderT' z := rfl
  have e2 : moreB x = more 32 (cpl x) := more_is x
  have e3 : aheadN x = (lead 32 (cpl x) : Nat) := lead_is x
  have e4 : behindN x = (trail 32 (cpl x) : Nat) := trail_is x
  rw [e1, sunder_txt, sunder_is, hz, more_flat G.toWrites hx, lead_flat G.toWrites hx, trail_flat G.toWrites hx, e2, e3, e4]
  rw [← natEq, ← natEq]
  rfl
theorem priv_gen {y q : PySem.Str} (h1 : cpl (pvS y) = (cpl (frS q)).flatMap g) (h2 : ∀ c ∈ cpl (frS q), c < 256) (h3 : 2 ≤ (pvS y).length) : privT y z = toldB x q := by
  have e4 : behindN x = (trail 32 (cpl x) : Nat) := trail_is x
  have e5 : frN q = (cpl (frS q)).length := by
    rw [cpl_len]
    show _ = (PySem.Str.ofString " " ++ q ++ PySem.Str.ofString "  ").length
    rw [Str.length_append, Str.length_append]
  have h4 : 2 ≤ (cpl (frS q)).length := by
    rw [← e5]
    have : (PySem.Str.ofString "  ").length = 2 := by decide +kernel
    show 2 ≤ (PySem.Str.ofString " ").length + q.length + (PySem.Str.ofString "  ").length
    omega
  have e6 := priv_txt z (pvS y) h3
  have e7 : privT y z = privL 95 (cpl (pvS y)) (cpl z) := e6
  rw [e7, h1, hz, priv_is G h2 hx h4]
  unfold toldB
  rw [e4, e5, str_beq, slice_to]
  have hl := cpl_len x
  congr 1
  · congr 1
    rw [decide_eq_decide]
    simp only [cpl] at hl ⊢
    omega
  · rw [decide_eq_decide]
    simp only [cpl] at hl ⊢
    omega
end
abbrev plainS : List PySem.Str := [PySem.Str.ofString "C", PySem.Str.ofString "", PySem.Str.ofString " C", PySem.Str.ofString "_"]
theorem own_pv : ∀ q ∈ plainS, cpl (pvS (ownS q)) = (cpl (frS q)).flatMap unit ∧ (∀ c ∈ cpl (frS q), c < 256) ∧ 2 ≤ (pvS (ownS q)).length := by decide +kernel
theorem exc_pv : ∀ q ∈ plainS, cpl (pvS (xS q)) = ((cpl (frS q)).flatMap fun c => [exc c]) ∧ (∀ c ∈ cpl (frS q), c < 256) ∧ 2 ≤ (pvS (xS q)).length := by decide +kernel
theorem kinds_gen {g : Nat → List Nat} (G : Reads g) {x z : PySem.Str} (hx : Oct x) (hz : cpl z = (cpl x).flatMap g) {f : PySem.Str → PySem.Str} (hf : ∀ q ∈ plainS, cpl (pvS (f q)) = (cpl (frS q)).flatMap g ∧ (∀ c ∈ cpl (frS q), c < 256) ∧ 2 ≤ (pvS (f q)).length) :
    kindsL z (plainS.map f) = toldL x plainS := by
  unfold kindsL toldL
  rw [dunder_gen G hx hz, sunder_gen G hx hz, List.map_map]
  congr 1
  refine List.map_congr_left fun q hq => ?_
  obtain ⟨h1, h2, h3⟩ := hf q hq
  exact priv_gen G hx hz h1 h2 h3
theorem kinds_own {x : PySem.Str} {t1 t2 t3 t4 : Tok} {o1 : List (PySem.Str × Tok)} (hx : Oct x) (ho : o1.map (fun x => x.1) = (plainL t1 t2 t3 t4).map fun q => ownS q.1) : kindsL (eS x) (o1.map (·.1)) = toldL x ((plainL t1 t2 t3 t4).map (·.1)) := by
  rw [ho]
  exact kinds_gen reads_unit hx (cpl_eS x) own_pv
theorem kinds_exc {x : PySem.Str} {t1 t2 t3 t4 : Tok} {o2 : List (PySem.Str × Tok)} (hx : Oct x) (ho : o2.map (fun x => x.1) = (plainL t1 t2 t3 t4).map fun q => ⟨outOf excS q.1.cps.toList⟩) : kindsL (xS x) (o2.map (·.1)) = toldL x ((plainL t1 t2 t3 t4).map (·.1)) := by
  rw [ho]
  exact kinds_gen (f := xS) reads_exc hx (cpl_xS x) exc_pv
theorem unit_swap : ∀ c, c < 256 → (unit c).map (swap 95 32) = dunit c := by decide +kernel
theorem dec_flat : ∀ {l : List Nat}, (∀ c ∈ l, c < 256) → (l.flatMap unit).map (swap 95 32) = dec l
  | [], _ => rfl
  | a :: r, h => by
    rw [List.flatMap_cons, List.map_append, unit_swap a (h a (.head _)), dec_flat fun c hc => h c (.tail _ hc)]
    rfl
theorem rep_is {x : PySem.Str} : cpl (Txt.replace (eS x) (PySem.Str.ofString "_") (PySem.Str.ofString " ")) = ((cpl x).flatMap unit).map (swap 95 32) := by
  rw [under_is, blank_is, replace_swap, cpl_eS]
theorem dec_is {x : PySem.Str} (hx : Oct x) : (Txt.replace (eS x) (PySem.Str.ofString "_") (PySem.Str.ofString " ")).cps.toList = dec x.cps.toList :=
  rep_is.trans (dec_flat hx)
theorem rep_len {x : PySem.Str} (_ : Oct x) (hl : x.length ≤ 20) : (Txt.replace (eS x) (PySem.Str.ofString "_") (PySem.Str.ofString " ")).length ≤ 200 := by
  rw [← cpl_len, rep_is, List.length_map, ← cpl_eS, cpl_len]
  exact Nat.le_trans (unitsT_len hl) (by decide)
end Mine
end
section
open PySem PySem.W PyProof.Rows PySem.Calls
set_option autoImplicit false
set_option maxRecDepth 100000
namespace Mine
theorem lens_of {o : List (PySem.Str × Tok)} {g : PySem.Str → PySem.Str} {t1 t2 t3 t4 : Tok} (h : ∀ x ∈ [PySem.Str.ofString "C", PySem.Str.ofString "", PySem.Str.ofString " C", PySem.Str.ofString "_"], (g x).length ≤ 10) (ho : o.map (fun x => x.1) = (plainL t1 t2 t3 t4).map fun q => g q.1) : ∀ q ∈ o, q.1.length ≤ 20 := by
  intro q hq
  have h1 : q.1 ∈ o.map (fun x => x.1) := List.mem_map_of_mem hq
  rw [ho] at h1
  obtain ⟨p, hp, e⟩ := List.mem_map.mp h1
  rw [← e]
  refine Nat.le_trans (h p.1 ?_) (by decide)
  have := List.mem_map_of_mem (f := Prod.fst) hp
  exact this
theorem len_of {o : List (PySem.Str × Tok)} {g : PySem.Str → PySem.Str} {t1 t2 t3 t4 : Tok} (ho : o.map (fun x => x.1) = (plainL t1 t2 t3 t4).map fun q => g q.1) : o.length ≤ 1000 := by
  have := congrArg List.length ho
  rw [List.length_map, List.length_map] at this
  rw [this]
  show 4 ≤ 1000
  decide
theorem toldL_len {x : PySem.Str} {ys : List PySem.Str} (h : ys.length ≤ 8) : (toldL x ys).length ≤ 10 := by
  unfold toldL
  rw [List.length_append, List.length_map]
  show 2 + ys.length ≤ 10
  omega
theorem kindsL_len {x : PySem.Str} {ys : List PySem.Str} (h : ys.length ≤ 8) : (kindsL x ys).length ≤ 10 := by
  unfold kindsL
  rw [List.length_append, List.length_map]
  show 2 + ys.length ≤ 10
  omega
theorem excT_len {x : PySem.Str} (h : x.length ≤ 20) : (⟨outOf excS x.cps.toList⟩ : PySem.Str).length ≤ 200 := by
  have h1 := len_out excS excS_len x.cps.toList
  have e1 : (⟨outOf excS x.cps.toList⟩ : PySem.Str).length = (outOf excS x.cps.toList).size := rfl
  have e2 : x.cps.toList.length = x.length := by simp [PySem.Str.length]
  omega
theorem back_is {x : PySem.Str} : (⟨x.cps.toList.toArray⟩ : PySem.Str) = x := by simp
section
variable {prog : Program} {w : World} {A : Around} {E : Value → Shared → Prop} {s : Shared} {h₀ : Heap} {L : Addr} {m : PySem.Str → Option Value} {news : List (Addr × Obj)}
theorem slice_name {value slice : Expr} {x cset : PySem.Str} {t ui uj : Tok} {Q : Value → Shared → Prop} (hF : Fr h₀ L s.heap m) (hN : News h₀ L s.heap news) (hc : CsetOk cset) (hx : Oct x) (hz : x.length ≤ 20)
    (h : ∀ h' t' k, Fr h₀ L h' m → News h₀ L h' news → Q (.str (eS x) t') { s with heap := h', toks := k })
    (hs : subscripted slice false (.str (encW cset (octB x)) t) (.ref s.heap.objs.size) = operate [.ref s.heap.objs.size, .str (encW cset (octB x)) t] (getItem (.str (encW cset (octB x)) t) (.ref s.heap.objs.size)) := by with_unfolding_all rfl)
    (ht : ∀ r, letTemporaryGo value (.str (encW cset (octB x)) t) r = pure () := by intro _; with_unfolding_all rfl) :
    wpAny (model prog w) A (subscriptTail value slice (.str (encW cset (octB x)) t) (.ref s.heap.objs.size)) Q E { s with heap := s.heap.push { cls := .type "slice", data := .fields #[.int ((frontS cset).length : Int) ui, .int (-2) uj, .none] } } := by
  refine slice_strN_ss_len hF hN (fun h' t' k F N _ => ?_) hs ht (encW_fits (octB_le hz) hc.len)
  rw [slice_word hc hx]
  exact h h' t' k F N
theorem item_u {value slice : Expr} {a : Addr} {l : List Value} {k : Nat} {i : Nat} {y : PySem.Str} {t u : Tok} {Q : Value → Shared → Prop} (N : News h₀ L s.heap news) (hm : (a, ({ cls := .type "list", data := .seq l.toArray k } : Obj)) ∈ news) (hv : l[i]? = some (.str y t)) (hz : l.length ≤ 300) (h : Q (.str y t) s)
    (hs : subscripted slice false (.ref a) (.int (i : Int) u) = operate [.ref a, .int (i : Int) u] (getItem (.ref a) (.int (i : Int) u)) := by with_unfolding_all rfl) (hg : ∀ r, letTemporaryGo value (.ref a) r = pure () := by intro _; with_unfolding_all rfl) :
    wpAny (model prog w) A (subscriptTail value slice (.ref a) (.int (i : Int) u)) Q E s := by
  have hlt : i < l.length := (List.getElem?_eq_some_iff.mp hv).1
  exact item_listL (News.isList N hm) (by omega) (by omega) (by simpa using hv) h hs hg
end
end Mine
end
section
open PySem PySem.W PyProof.Rows PySem.Calls
set_option autoImplicit false
open Mine
local macro_rules | `(tactic| walk_at "execs cons") => `(tactic| refine wpAny_execs_cons ?_)
local macro_rules | `(tactic| walk_at "TurnEnd") => `(tactic| (k_dflt (refine TurnEnd.mk' (by k_asm) (by k_asm) (by kcf_all) ?_); first | exact rfl | exact ⟨_, rfl⟩))
local macro_rules | `(tactic| walk_at "call ref cons nil") => `(tactic| ((with_reducible show wpAny _ _ (PySem.call (Value.ref 119) _ _) _ _ _); (k_dflt (refine octets_tells _ _ (by with_reducible assumption) (by with_reducible assumption) _ _ _ _ _ _ _ _ _ _ _ _ _ _ _ _ _ _ _ _ _ _ _ _ (by k_asm) (by k_asm) (by k_asm) (by k_asm) (by k_asm) (by first | exact rfl | assumption) (by ktr_room) (by ktr_units) ?_; intro t' h' tk' F' N')); (try dsimp only)))
local macro_rules | `(tactic| walk_at "call ref cons nil") => `(tactic| ((with_reducible show wpAny _ _ (PySem.call (Value.ref 74) _ _) _ _ _); (k_dflt (refine encode2_tells _ _ (by with_reducible assumption) _ (by first | with_reducible assumption | exact cx_len) _ _ _ _ _ _ _ _ _ _ _ _ _ _ _ _ _ _ _ _ _ _ _ _ _ (by k_asm) (by k_asm) (by k_asm) (by k_asm) (by k_asm) (by first | exact rfl | assumption) (by ktr_room) (by ktr_units) ?_; intro v' t' h' tk' e' F' N'; subst e')); (try dsimp only)))
local macro_rules | `(tactic| walk_at "call ref cons nil") => `(tactic| ((with_reducible show wpAny _ _ (PySem.call (Value.ref 74) _ _) _ _ _); (k_dflt (refine encode1_tells _ _ (by with_reducible assumption) _ _ _ _ _ _ _ _ _ _ _ _ _ _ _ _ _ _ _ _ _ _ _ _ (by k_asm) (by k_asm) (by k_asm) (by k_asm) (by k_asm) (by first | exact rfl | assumption) (by ktr_room) (by ktr_units) ?_; intro v' t' h' tk' e' F' N'; subst e')); (try dsimp only)))
local macro_rules | `(tactic| walk_at "call ref cons nil") => `(tactic| ((with_reducible show wpAny _ _ (PySem.call (Value.ref 131) _ _) _ _ _); (k_dflt (refine unit_tells _ _ (by with_reducible assumption) _ _ _ _ _ _ _ _ _ _ _ _ _ _ _ _ _ _ _ _ _ _ _ _ (by k_asm) (by k_asm) (by k_asm) (by k_asm) (by k_asm) (by first | exact rfl | assumption) (by ktr_room) (by ktr_units) ?_; intro v' t' h' tk' e' F' N'; subst e')); (try dsimp only)))
local macro_rules | `(tactic| walk_at "call ref cons nil") => `(tactic| ((with_reducible show wpAny _ _ (PySem.call (Value.ref 59) _ _) _ _ _); (k_dflt (refine check_tells _ _ (by with_reducible assumption) _ _ _ _ _ _ _ _ _ _ _ _ _ _ _ _ _ _ _ _ _ _ _ _ (by k_asm) (by k_asm) (by k_asm) (by k_asm) (by k_asm) (by first | exact rfl | assumption) (by ktr_room) (by ktr_units) ?_; intro v' h' tk' e' F' N'; subst e')); (try dsimp only)))
local macro_rules | `(tactic| walk_at "call ref cons nil") => `(tactic| ((with_reducible show wpAny _ _ (PySem.call (Value.ref 124) _ _) _ _ _); (k_dflt (refine exchanged_tells _ _ (by with_reducible assumption) _ _ _ _ _ _ _ _ _ _ _ _ _ _ _ _ _ _ _ _ _ _ _ _ (by k_asm) (by k_asm) (by k_asm) (by k_asm) (by k_asm) (by first | exact rfl | assumption) (by ktr_room) (by ktr_units) ?_; intro t' h' tk' F' N')); (try dsimp only)))
local macro_rules | `(tactic| walk_at "call ref cons nil") => `(tactic| ((with_reducible show wpAny _ _ (PySem.call (Value.ref 93) _ _) _ _ _); (k_dflt (refine decode_tells _ _ (by with_reducible assumption) _ (by with_reducible assumption) (by with_reducible assumption) (by with_reducible assumption) _ _ _ _ _ _ _ _ _ _ _ _ _ _ _ _ _ _ _ _ _ _ _ _ (by k_asm) (by k_asm) (by k_asm) (by k_asm) (by k_asm) (by first | exact rfl | assumption) (by ktr_room) (by ktr_units) ?_; intro t' h' tk' F' N')); (try dsimp only)))
local macro_rules | `(tactic| walk_at "call ref cons nil") => `(tactic| ((with_reducible show wpAny _ _ (PySem.call (Value.ref 138) _ _) _ _ _); (k_dflt (refine' told_tells _ _ ?a _ ?b ?c _ _ _ _ _ _ _ _ _ _ _ _ _ _ _ _ _ _ _ _ _ _ _ _ _ _ ?B ?F ?X ?N ?T ?K ?R ?U ?_; (case N => exact News.dup (by k_asm) (by k_mem)); (case a => with_reducible assumption); (case b => with_reducible assumption); (case c => with_reducible assumption); (case B => k_asm); (case F => k_asm); (case X => k_asm); (case T => k_asm); (case K => first | exact rfl | assumption); (case R => ktr_room); (case U => ktr_units); intro D' h' tk' k' F' N')); (try dsimp only)))
local macro_rules | `(tactic| walk_at "call ref cons nil") => `(tactic| ((with_reducible show wpAny _ _ (PySem.call (Value.ref 143) _ _) _ _ _); (k_dflt (refine' kinds_tells _ _ ?a _ ?b ?c _ _ _ _ _ _ _ _ _ _ _ _ _ _ _ _ _ _ _ _ _ _ _ _ _ _ ?B ?F ?X ?N ?T ?K ?R ?U ?_; (case N => exact News.dup (by k_asm) (by k_mem)); (case a => with_reducible assumption); (case b => with_reducible assumption); (case c => with_reducible assumption); (case B => k_asm); (case F => k_asm); (case X => k_asm); (case T => k_asm); (case K => first | exact rfl | assumption); (case R => ktr_room); (case U => ktr_units); intro D' h' tk' k' F' N')); (try dsimp only)))
local macro_rules | `(tactic| walk_at "subscriptTail") => `(tactic| ((with_reducible show wpAny _ _ (subscriptTail _ (Expr.Slice (some _) (some _) none _) (Value.str _ _) (Value.ref _)) _ _ _); (k_dflt (refine slice_strN_ss_len (s := ⟨_, _, _, _, _⟩) (by k_asm) (by k_asm) ?_ (hsz := (by with_reducible exact encW_fits (by assumption) (by first | assumption | decide +kernel))))); intro h' t' k' F' N' _))
local macro_rules | `(tactic| walk_at "ForPost") => `(tactic| refine stopHere ?_)
local macro_rules | `(tactic| walk_at "subscriptTail") => `(tactic| ((with_reducible show wpAny _ _ (subscriptTail _ _ (Value.ref _) (Value.int _ _)) _ _ _); (k_dflt (refine item_piece (by k_asm) (by k_mem) (pieceV_lit (by decide +kernel)) (pieceV_lit (by decide +kernel)) (pieceV_lit (by decide +kernel)) (pieceV_lit (by decide +kernel)) (pieceV_lit (by decide +kernel)) pieceV_chr (pieceV_lit (by decide +kernel)) (pieceV_lit (by decide +kernel)) ?_)); intro y' t' o' l'))
local macro_rules | `(tactic| walk_at "binaryOp Mult str int") => `(tactic| ((k_dflt (refine mul_blanks ?_)); intro y' t' k' o' l'))
local macro_rules | `(tactic| walk_at "binaryOp Add str str") => `(tactic| ((k_dflt (refine add_le (by first | with_reducible assumption | exact qe_len) (by first | with_reducible assumption | exact qe_len) (by decide) ?_)); intro t' k' l'))
local macro_rules | `(tactic| walk_at "call builtin:str.join") => `(tactic| (k_dflt (refine call_join_K (by k_asm) (by k_mem) (by rfl) (by assumption) (by assumption) unitS_len (by assumption) ?_); intro t' k'))
local macro_rules | `(tactic| walk_at "binaryOp Add str str") => `(tactic| ((k_dflt (refine add_oct (by assumption) (by assumption) (by assumption) (by assumption) (by decide) ?_)); intro y' t' k' o' l'))
local macro_rules | `(tactic| walk_at "inplaceOp Add str str") => `(tactic| ((k_dflt (refine iadd_oct (by assumption) (by assumption) (by assumption) (by assumption) (by decide) ?_)); intro y' t' k' o' l'))
local macro_rules | `(tactic| walk_at "exec If") => `(tactic| refine wpAny_If ?_)
local macro_rules | `(tactic| walk_at "exec If") => `(tactic| ((fail_if_success (with_reducible have : Ready1 := by assumption)); refine stopHere ?_))
local macro_rules | `(tactic| walk_at "WordEnd") => `(tactic| (k_dflt (refine WordEnd.mk' (by k_asm) (by k_asm) (by kcf_all) ?_ ?_); with_reducible (first | exact cset_x | exact cset_i); with_reducible (first | exact front_x | exact front_i)))
local macro_rules | `(tactic| walk_at "FromSrc") => `(tactic| refine stopHere ?_)
local macro_rules | `(tactic| walk_at "exec For") => `(tactic| refine stopHere ?_)
local macro_rules | `(tactic| walk_at "exec For Name BinOp cons nil") => `(tactic| refine stopHere ?_)
local macro_rules | `(tactic| walk_at "exec Assign cons ListComp") => `(tactic| (k_dflt (refine assign_src (by k_asm) (by rfl) (by with_unfolding_all rfl) (by with_unfolding_all rfl) (by decide) (by rfl) (by decide) (by rfl) (by rfl) (by rfl) ?_)))
local macro_rules | `(tactic| walk_at "exec For Name Call cons nil") => `(tactic| refine stopHere ?_)
local macro_rules | `(tactic| walk_at "exec If") => `(tactic| ((with_reducible (have : Ready1 := by assumption)); clear this; (k_dflt (refine cut_keep (by k_asm) (by k_asm) (wpAny_If ?_) (fun h' tk' F' N' => ?_)))))
local macro_rules | `(tactic| walk_at "KeepEnd") => `(tactic| (k_dflt (exact KeepEnd.mk' (by k_asm) (by k_asm) (by kcf_all))))
local macro_rules | `(tactic| walk_at "compareOp NotEq str str") => `(tactic| with_reducible (first
  | ((show wpAny _ _ (compareOp _ (Value.str (encW _ _) _) (Value.str (_ ++ _) _)) _ _ _); refine ne_same (word_is (by assumption) (by assumption) (by assumption)) ?_)
  | ((show wpAny _ _ (compareOp _ (Value.str (encW _ _) _) _) _ _ _); refine ne_same (word_nil (by assumption)) ?_)
  | ((show wpAny _ _ (compareOp _ (Value.str (strB (kindsL (PySem.Str.mk (outOf unitS _)) _)) _) _) _ _ _); refine ne_same (congrArg strB (kinds_own (by assumption) (by assumption))) ?_)
  | ((show wpAny _ _ (compareOp _ (Value.str (strB _) _) _) _ _ _); refine ne_same (congrArg strB (kinds_exc (by assumption) (by assumption))) ?_)
  | ((show wpAny _ _ (compareOp _ (Value.str (PySem.Str.mk (List.toArray _)) _) _) _ _ _); refine ne_same back_is ?_)))
local macro_rules | `(tactic| walk_at "compareOp IsNot bool bool") => `(tactic| with_reducible (refine isnot_same (check_is (by assumption)) ?_))
local macro_rules | `(tactic| walk_at "subscriptTail") => `(tactic| ((with_reducible (have : Ready1 := by assumption)); clear this; (with_reducible show wpAny _ _ (subscriptTail _ _ (Value.ref _) (Value.int _ _)) _ _ _); (k_dflt (refine item_u (by k_asm) (by k_mem) (by assumption) (by assumption) ?_))))
local macro_rules | `(tactic| walk_at "subscriptTail Name Name str int") => `(tactic| ((with_reducible (have : Ready1 := by assumption)); clear this; (with_reducible show wpAny _ _ (subscriptTail _ _ (Value.str _ _) (Value.int _ _)) _ _ _); (k_dflt (refine item_c (by assumption) (by assumption) ?_)); intro t' k'))
local macro_rules | `(tactic| walk_at "subscriptTail Name Slice str ref") => `(tactic| ((with_reducible (have : Ready1 := by assumption)); clear this; (with_reducible show wpAny _ _ (subscriptTail _ (Expr.Slice (some _) (some _) none _) (Value.str _ _) (Value.ref _)) _ _ _); (k_dflt (refine slice_name (s := ⟨_, _, _, _, _⟩) (by k_asm) (by k_asm) (by assumption) (by assumption) (by assumption) ?_)); intro h' t' k' F' N'))
local macro_rules | `(tactic| walk_at "call type:str") => `(tactic| ((k_dflt (refine str_bools (by k_asm) (by k_asm) (by k_mem) (by first | with_reducible exact toldL_len (by assumption) | with_reducible exact kindsL_len (by assumption)) (by first | rfl | with_unfolding_all rfl) (by ktr_units) ?_)); intro h' t' k' F' N'))
set_option maxRecDepth 100000 in
set_option maxHeartbeats 8000000 in
theorem Mine.law_holds : PySem.Challenge.rw_ik0023_01.Holds := by
  w_on
  o_law
  refine' And.left (b := _) ⟨?main, ?hl⟩
  case main =>
    o_head (kHook Mine.hd.heap_39 adrT (fun _ => by kernel_rfl))
    case hw => w_witness2
    case hc =>
      k_go0
      all_goals try k_fold
      k_steps
      unfold Stop
      rename_i P1 _ _ h1 F1 N1
      obtain ⟨t1, t2, t3, t4, N2⟩ : ∃ t1 t2 t3 t4, News _ _ h1 [(P1, tupS (plainL t1 t2 t3 t4) 0)] := ⟨_, _, _, _, N1⟩
      clear N1
      refine from_seq (plainL t1 t2 t3 t4) (fun y v => ∃ t, v = Value.str (ownS y) t) (src_tup (by rfl) (by k_asm) (by k_asm) (by k_mem)) (by k_mem) (by show 4 ≤ 1000; decide) ?_ ?_
      · intro y u I oI C oC D m₂ vs h tk E' hy hC hx F' N' off' ne'
        have hyl : y.length ≤ 20 := Nat.le_trans (plain_ok _ hy).1 (by decide)
        have hyo : ∀ c ∈ y.cps.toList, c < 256 := (plain_ok _ hy).2
        have hyb : (octB y).size ≤ 20 := by rw [octB_size]; exact hyl
        k_steps
      intro g vs hvl hvo
      obtain ⟨o1, rfl, ho1⟩ := strs_of_outS (g := ownS) hvl hvo
      clear hvl hvo
      k_steps
      unfold Stop
      rename_i D1 h2 _ F2 N3 ne1
      refine from_seq (plainL t1 t2 t3 t4) (fun y v => ∃ t, v = Value.str ⟨outOf excS y.cps.toList⟩ t) (src_tup (by rfl) (by k_asm) (by k_asm) (by k_mem)) (by k_mem) (by show 4 ≤ 1000; decide) ?_ ?_
      · intro y u I oI C oC D m₂ vs h tk E' hy hC hx F' N' off' ne'
        have hyl : y.length ≤ 20 := Nat.le_trans (plain_ok _ hy).1 (by decide)
        k_steps
      intro g vs hvl hvo
      obtain ⟨o2, rfl, ho2⟩ := strs_of_outS (g := fun y => ⟨outOf excS y.cps.toList⟩) hvl hvo
      clear hvl hvo
      k_steps
      unfold Stop
      rename_i D2 h3 _ F3 N4 ne2
      have hpb : ∀ q ∈ plainL t1 t2 t3 t4, q.1.length ≤ 10 := fun q hq => Nat.le_trans (plain_ok q hq).1 (by decide)
      have hpl : (plainL t1 t2 t3 t4).length ≤ 8 := by show 4 ≤ 8; decide
      have hpm : ((plainL t1 t2 t3 t4).map (·.1)).length ≤ 8 := by show 4 ≤ 8; decide
      have ho1b : ∀ q ∈ o1, q.1.length ≤ 20 := lens_of own_len ho1
      have ho2b : ∀ q ∈ o2, q.1.length ≤ 20 := lens_of (g := fun y => ⟨outOf excS y.cps.toList⟩) exc_len ho2
      have ho1l : o1.length ≤ 1000 := len_of ho1
      have ho2l : o2.length ≤ 1000 := len_of (g := fun y => ⟨outOf excS y.cps.toList⟩) ho2
      have ho1m : (o1.map (·.1)).length ≤ 8 := by rw [ho1]; show 4 ≤ 8; decide
      have ho2m : (o2.map (·.1)).length ≤ 8 := by rw [ho2]; show 4 ≤ 8; decide
      refine for_srcJ [PySem.Str.ofString "x", PySem.Str.ofString "pieces", PySem.Str.ofString "text", PySem.Str.ofString "front", PySem.Str.ofString "word", PySem.Str.ofString "units", PySem.Str.ofString "k", PySem.Str.ofString "name", PySem.Str.ofString "told"] (by k_asm) (by rfl) (by rfl) ?_
      k_steps
      unfold Stop
      rename_i D3 ws h4 F4 N5 hws lt3
      refine ⟨[D3], _, _, _, _, fun _ nx => nx = [(D3, _), (_, _), (_, _), (D2, _), (D1, _), (P1, _)], src_list (by rfl) (by k_asm) (by k_asm) (by k_mem), ?_, rfl, ?_, ?_⟩
      · intro b hb e
        rw [List.mem_singleton.mp hb] at e
        exact (N5 _ (.head _)).2.1 e
      · intro i v u h tk own nx hi hP hJ hadr hsep F6 N6
        subst hJ
        obtain ⟨z, t, hz, rfl⟩ := ints_at hws hP
        simp only [List.cons_append, List.nil_append] at N6
        k_steps
        unfold Stop
        rename_i k x tx tkx ox lx h7 F7 N7
        have hx20 : x.length ≤ 20 := lx
        have hxb : (octB x).size ≤ 20 := octB_le hx20
        have hox : ∀ c ∈ x.cps.toList, c < 256 := ox
        have hready : Ready1 := trivial
        refine cut_word x F7 N7 (wpAny_If ?_) ?_
        k_steps
        unfold Stop
        rename_i h8 tk8 cset tw tf hcs F8 N8
        have hcl : cset.length ≤ 20 := hcs.len
        have hen : (⟨outOf unitS x.cps.toList⟩ : PySem.Str).length ≤ 200 := Nat.le_trans (unitsT_len hx20) (by decide)
        have hen1 : (⟨outOf unitS x.cps.toList⟩ : PySem.Str).length ≤ 100 := Nat.le_trans (unitsT_len hx20) (by decide)
        have hxn : (⟨outOf excS x.cps.toList⟩ : PySem.Str).length ≤ 200 := excT_len hx20
        have hdc := dec_is ox
        have hdl := rep_len ox hx20
        have hfl : (frontS cset).length ≤ 25 := frontS_len hcs
        have hul : (⟨outOf unitS x.cps.toList⟩ : PySem.Str).length ≤ 60 := unitsT_len hx20
        have hwl : (encW cset (octB x)).length ≤ 100 := encW_len2 hx20 hcs
        have hxl : x.cps.toList.length ≤ 300 := by rw [Array.length_toList]; exact Nat.le_trans hx20 (by decide)
        refine from_str (fun c v => ∃ t, v = Value.str (unitS c) t) (by rfl) (by k_asm) (by k_asm) (Nat.le_trans hx20 (by decide)) ?_ ?_
        · intro c u' I oI C oC D m₂ vs h tk E' hc hC hxn F' N' off' ne'
          have hc256 : c < 256 := ox c hc
          k_steps
        intro g vs hvl hvo
        k_steps
        unfold Stop
        rename_i U1 h9 tk9 F9 N9 ne9 h10 tk10 F10 N10
        clear F9 N9 F6 N6 F7 N7 F8 N8
        refine for_srcJ [] F10 (by rfl) (by rfl) ?_
        k_steps
        unfold Stop
        rename_i h11 tk11 ta tb tc hr11 F11 N11 k11
        have hvs : vs.length ≤ 300 := by rw [hvl]; exact hxl
        refine ⟨[], x.length, _, _, _, fun _ nx => nx = _, src_range (by rfl) F11 N11 hr11 (Nat.le_trans hx20 (by decide)), ?_, rfl, ?_, ?_⟩
        · intro b hb
          exact absurd hb List.not_mem_nil
        · intro i v u h tk own' nx hi hP hJ hadr hsep F12 N12
          subst hJ
          obtain ⟨_, t12, rfl⟩ := hP
          obtain ⟨c, hc⟩ : ∃ c, x.cps.toList[i]? = some c := ⟨_, List.getElem?_eq_getElem (by simpa [PySem.Str.length] using hi)⟩
          obtain ⟨t13, hv⟩ : ∃ t, vs[i]? = some (Value.str (unitS c) t) := by
            have hlt : i < vs.length := by rw [hvl]; exact (List.getElem?_eq_some_iff.mp hc).1
            obtain ⟨t, e⟩ := hvo i c _ hc (List.getElem?_eq_getElem hlt)
            exact ⟨t, by rw [List.getElem?_eq_getElem hlt, e]⟩
          have hc256 : c < 256 := ox c (List.mem_of_getElem? hc)
          simp only [List.cons_append, List.nil_append] at N12
          k_steps
          rename_i hF hN
          exact ForEnd.next _ hF hN (fun p hp => hp) rfl (fun z h1 h2 => (if_neg h1).trans (if_neg (by rw [h2]; decide))) rfl
        · intro u h tk nx hJ F12 N12
          subst hJ
          k_steps
          rename_i hF hN
          refine ForEnd.next _ hF hN ?_ rfl ?_ rfl
          · kcf_all
          · intro z h1 h2
            have hs : ∀ s : PySem.Str, [PySem.Str.ofString "x", PySem.Str.ofString "pieces", PySem.Str.ofString "text", PySem.Str.ofString "front", PySem.Str.ofString "word", PySem.Str.ofString "units", PySem.Str.ofString "k", PySem.Str.ofString "name", PySem.Str.ofString "told"].contains s = true → z ≠ s := fun s hs e => by
              rw [← e, h2] at hs; cases hs
            have n1 := hs (PySem.Str.ofString "x") (by decide)
            have n2 := hs (PySem.Str.ofString "pieces") (by decide)
            have n3 := hs (PySem.Str.ofString "text") (by decide)
            have n4 := hs (PySem.Str.ofString "front") (by decide)
            have n5 := hs (PySem.Str.ofString "word") (by decide)
            have n6 := hs (PySem.Str.ofString "units") (by decide)
            have n7 := hs (PySem.Str.ofString "k") (by decide)
            have n8 := hs (PySem.Str.ofString "name") (by decide)
            have n9 := hs (PySem.Str.ofString "told") (by decide)
            simp only [if_neg h1, if_neg n1, if_neg n2, if_neg n3, if_neg n4, if_neg n5, if_neg n6, if_neg n7, if_neg n8, if_neg n9, h2]
            rfl
      · intro u h tk nx hJ F6 N6
        subst hJ
        k_steps
  case hl => exact Mine.left
end
theorem PySem.Challenge.cw_ik0023_01_holds : PySem.Challenge.rw_ik0023_01.Holds := by
  exact Mine.law_holds
