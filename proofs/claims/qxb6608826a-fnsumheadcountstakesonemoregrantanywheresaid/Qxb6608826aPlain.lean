/-
  THE PLAIN LAW: sums of headcounts, with no Go in sight.
-/
import Derived.Below
namespace Go.Proofs.Qxb6608826a

/-- The running total: refused at a negative number, or where the total passes the greatest int64. -/
def sumFrom : Int → List Int → Option Int
  | t, [] => some t
  | t, h :: r => if h < 0 ∨ 9223372036854775807 < t + h then none else sumFrom (t + h) r

theorem sumFrom_append (t : Int) (a b : List Int) : sumFrom t (a ++ b) = (sumFrom t a).bind fun u => sumFrom u b := by
  induction a generalizing t with
  | nil => rfl
  | cons h r ih =>
    simp only [List.cons_append, sumFrom]
    split
    · rfl
    · exact ih _

theorem sum_nonneg (l : List Int) (h : ∀ x ∈ l, 0 ≤ x) : 0 ≤ l.sum := by
  induction l with
  | nil => simp
  | cons a r ih =>
    have h1 := h a (by simp)
    have h2 := ih (fun x hx => h x (by simp [hx]))
    simp only [List.sum_cons]
    omega

/-- What a sum is: no number below zero, and the total in bounds. -/
theorem sumFrom_iff (l : List Int) : ∀ (t u : Int), 0 ≤ t → t ≤ 9223372036854775807 → (sumFrom t l = some u ↔ (∀ h ∈ l, 0 ≤ h) ∧ u = t + l.sum ∧ u ≤ 9223372036854775807) := by
  induction l with
  | nil =>
    intro t u h0 h1
    simp only [sumFrom, Option.some.injEq, List.not_mem_nil, List.sum_nil]
    constructor
    · rintro rfl; exact ⟨by simp, by omega, h1⟩
    · rintro ⟨_, h, _⟩; omega
  | cons h r ih =>
    intro t u h0 h1
    simp only [sumFrom, List.mem_cons, List.sum_cons]
    split
    · next hc =>
      constructor
      · intro e; cases e
      · rintro ⟨hp, he, hb⟩
        have hh := hp h (.inl rfl)
        have hr : 0 ≤ r.sum := sum_nonneg r (fun x hx => hp x (.inr hx))
        omega
    · next hc =>
      rw [ih (t + h) u (by omega) (by omega)]
      constructor
      · rintro ⟨hp, he, hb⟩
        refine ⟨?_, by omega, hb⟩
        rintro x (rfl | hx)
        · omega
        · exact hp x hx
      · rintro ⟨hp, he, hb⟩
        exact ⟨fun x hx => hp x (.inr hx), by omega, hb⟩

theorem sum0_iff (l : List Int) (u : Int) : sumFrom 0 l = some u ↔ (∀ h ∈ l, 0 ≤ h) ∧ u = l.sum ∧ u ≤ 9223372036854775807 := by
  rw [sumFrom_iff l 0 u (by omega) (by omega)]
  simp

theorem sum0_bounds {l : List Int} {u : Int} (h : sumFrom 0 l = some u) : 0 ≤ u ∧ u ≤ 9223372036854775807 := by
  obtain ⟨hp, he, hb⟩ := (sum0_iff l u).1 h
  have := sum_nonneg l hp
  omega

/-- Nothing but the members and the sum counts. -/
theorem sum0_congr {l m : List Int} (hm : ∀ x, x ∈ l ↔ x ∈ m) (hs : l.sum = m.sum) : sumFrom 0 l = sumFrom 0 m := by
  have key : ∀ u, sumFrom 0 l = some u ↔ sumFrom 0 m = some u := by
    intro u
    rw [sum0_iff, sum0_iff, hs]
    constructor
    · rintro ⟨a, b, c⟩; exact ⟨fun h hh => a h ((hm h).2 hh), b, c⟩
    · rintro ⟨a, b, c⟩; exact ⟨fun h hh => a h ((hm h).1 hh), b, c⟩
  cases h1 : sumFrom 0 l with
  | some u => exact ((key u).1 h1).symm
  | none =>
    cases h2 : sumFrom 0 m with
    | none => rfl
    | some v => rw [(key v).2 h2] at h1; cases h1

/-- The four ways of a cut. -/
def Cut (r r1 r2 rr : Option Int) : Prop :=
  (∃ a b, r1 = some a ∧ r2 = some b ∧ 0 ≤ a ∧ 0 ≤ b ∧ a + b ≤ 9223372036854775807 ∧ r = some (a + b) ∧ rr = some (a + b)) ∨
  (∃ a b, r1 = some a ∧ r2 = some b ∧ 0 ≤ a ∧ 0 ≤ b ∧ a ≤ 9223372036854775807 ∧ b ≤ 9223372036854775807 ∧ 9223372036854775807 < a + b ∧ r = none ∧ rr = none) ∨
  (r1 = none ∧ r = none ∧ rr = none) ∨ (∃ a, r1 = some a ∧ r2 = none ∧ r = none ∧ rr = none)

theorem none_left {a : List Int} (b : List Int) (h : sumFrom 0 a = none) : sumFrom 0 (a ++ b) = none := by
  rw [sumFrom_append, h]; rfl

theorem swap_sum (a b : List Int) : sumFrom 0 (b ++ a) = sumFrom 0 (a ++ b) :=
  sum0_congr (fun x => by simp [or_comm]) (by simp [Int.add_comm])

theorem cut_ways (a b : List Int) : Cut (sumFrom 0 (a ++ b)) (sumFrom 0 a) (sumFrom 0 b) (sumFrom 0 (b ++ a)) := by
  rw [swap_sum a b]
  cases h1 : sumFrom 0 a with
  | none => exact .inr (.inr (.inl ⟨rfl, none_left b h1, none_left b h1⟩))
  | some x =>
    cases h2 : sumFrom 0 b with
    | none =>
      have : sumFrom 0 (a ++ b) = none := by rw [← swap_sum a b]; exact none_left a h2
      exact .inr (.inr (.inr ⟨x, rfl, rfl, this, this⟩))
    | some y =>
      obtain ⟨p1, e1, q1⟩ := (sum0_iff a x).1 h1
      obtain ⟨p2, e2, q2⟩ := (sum0_iff b y).1 h2
      have n1 := sum_nonneg a p1
      have n2 := sum_nonneg b p2
      by_cases hs : x + y ≤ 9223372036854775807
      · have : sumFrom 0 (a ++ b) = some (x + y) := by
          rw [sum0_iff]
          refine ⟨fun h hh => ?_, by simp; omega, hs⟩
          rcases List.mem_append.1 hh with h' | h'
          · exact p1 h h'
          · exact p2 h h'
        exact .inl ⟨x, y, rfl, rfl, by omega, by omega, hs, this, this⟩
      · have : sumFrom 0 (a ++ b) = none := by
          cases h3 : sumFrom 0 (a ++ b) with
          | none => rfl
          | some z =>
            obtain ⟨_, e3, q3⟩ := (sum0_iff _ z).1 h3
            simp at e3
            omega
        exact .inr (.inl ⟨x, y, rfl, rfl, by omega, by omega, q1, q2, by omega, this, this⟩)

/-- One more number, wherever it is put in. -/
theorem more_neg (a b : List Int) (h : Int) (hh : h < 0) : sumFrom 0 (a ++ [h] ++ b) = none := by
  cases h3 : sumFrom 0 (a ++ [h] ++ b) with
  | none => rfl
  | some z =>
    obtain ⟨p, _, _⟩ := (sum0_iff _ z).1 h3
    have := p h (by simp)
    omega

def More (h : Int) (r rn : Option Int) : Prop :=
  (∃ t, r = some t ∧ 0 ≤ t ∧ t + h ≤ 9223372036854775807 ∧ rn = some (t + h)) ∨ (∃ t, r = some t ∧ 0 ≤ t ∧ t ≤ 9223372036854775807 ∧ 9223372036854775807 < t + h ∧ rn = none) ∨ (r = none ∧ rn = none)

theorem more_ways (a b : List Int) (h : Int) (hh : 0 ≤ h) : More h (sumFrom 0 (a ++ b)) (sumFrom 0 (a ++ [h] ++ b)) := by
  cases h1 : sumFrom 0 (a ++ b) with
  | none =>
    refine .inr (.inr ⟨rfl, ?_⟩)
    cases h3 : sumFrom 0 (a ++ [h] ++ b) with
    | none => rfl
    | some z =>
      obtain ⟨p, e, q⟩ := (sum0_iff _ z).1 h3
      have hn : sumFrom 0 (a ++ b) = some (a ++ b).sum := by
        rw [sum0_iff]
        refine ⟨fun x hx => p x ?_, rfl, ?_⟩
        · rcases List.mem_append.1 hx with h' | h'
          · simp [h']
          · simp [h']
        · simp at e ⊢; omega
      rw [hn] at h1
      cases h1
  | some t =>
    obtain ⟨p, e, q⟩ := (sum0_iff _ t).1 h1
    have n1 := sum_nonneg _ p
    simp at e n1
    by_cases hs : t + h ≤ 9223372036854775807
    · refine .inl ⟨t, rfl, by omega, hs, ?_⟩
      rw [sum0_iff]
      refine ⟨fun x hx => ?_, by simp; omega, hs⟩
      simp at hx
      rcases hx with hx | rfl | hx
      · exact p x (by simp [hx])
      · exact hh
      · exact p x (by simp [hx])
    · refine .inr (.inl ⟨t, rfl, by omega, q, by omega, ?_⟩)
      cases h3 : sumFrom 0 (a ++ [h] ++ b) with
      | none => rfl
      | some z =>
        obtain ⟨_, e3, q3⟩ := (sum0_iff _ z).1 h3
        simp at e3
        omega

end Go.Proofs.Qxb6608826a
