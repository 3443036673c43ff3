/- The plain law of a set of ranges: the first range that ends at or behind a number holds it, or none does. -/
import Derived.Test.YthjampbabfmmpaaFind
namespace Go.Proofs.Ythjampbabfmmpaa

/-- The first n ranges ascend, and none meets the next one. -/
def Asc (lo hi : Nat → Int) (n : Nat) : Prop := (∀ i, i < n → lo i ≤ hi i) ∧ (∀ i, i + 1 < n → hi i < lo (i + 1))

/-- Does one of the first n ranges hold r? -/
def hasR (lo hi : Nat → Int) (n : Nat) (r : Int) : Bool := (List.range n).any fun i => inR (lo i) (hi i) r

theorem okR_iff {x y r : Int} (h : x ≤ y) : okR x y r = decide (r ≤ y) := by
  simp only [okR, inR, upR]
  by_cases h1 : x ≤ r <;> by_cases h2 : r ≤ y <;> by_cases h3 : r ≤ x <;> simp [h1, h2, h3] <;> omega

theorem hi_mono {lo hi : Nat → Int} {n : Nat} (h : Asc lo hi n) {a : Nat} : ∀ b, a ≤ b → b < n → hi a ≤ hi b
  | 0, hab, _ => by obtain rfl : a = 0 := by omega
                    exact Int.le_refl _
  | b + 1, hab, hb => by
    by_cases e : a = b + 1
    · subst e; exact Int.le_refl _
    · have h1 := hi_mono h (a := a) b (by omega) (by omega)
      have h2 := h.2 b hb
      have h3 := h.1 (b + 1) hb
      omega

theorem ok_mono {lo hi : Nat → Int} {n : Nat} (h : Asc lo hi n) (r : Int) : ∀ a b, a ≤ b → b < n → okR (lo a) (hi a) r = true → okR (lo b) (hi b) r = true := by
  intro a b hab hb ha
  rw [okR_iff (h.1 a (by omega))] at ha
  rw [okR_iff (h.1 b hb)]
  have := hi_mono h b hab hb
  simp only [decide_eq_true_eq] at *
  omega

theorem has_at {lo hi : Nat → Int} {n k : Nat} {r : Int} (h : Asc lo hi n) (hk : FirstAt (fun i => okR (lo i) (hi i) r) n k) (hlt : k < n) : inR (lo k) (hi k) r = hasR lo hi n r := by
  have e1 := hk.2.2 hlt
  simp only [okR_iff (h.1 k hlt), decide_eq_true_eq] at e1
  rw [Bool.eq_iff_iff]
  unfold hasR
  rw [List.any_eq_true]
  constructor
  · intro hin
    exact ⟨k, by simpa using hlt, hin⟩
  · rintro ⟨i, hi', hin⟩
    have hin' : i < n := by simpa using hi'
    simp only [inR, Bool.and_eq_true, decide_eq_true_eq] at hin ⊢
    refine ⟨?_, e1⟩
    rcases Nat.lt_trichotomy i k with hik | hik | hik
    · have := hk.2.1 i hik
      simp only [okR_iff (h.1 i hin'), decide_eq_false_iff_not] at this
      omega
    · subst hik; exact hin.1
    · have h1 := hi_mono h (a := k) (i - 1) (by omega) (by omega)
      have h2 := h.2 (i - 1) (by omega)
      rw [show i - 1 + 1 = i by omega] at h2
      have h3 := h.1 k hlt
      omega

theorem has_none {lo hi : Nat → Int} {n : Nat} {r : Int} (h : Asc lo hi n) (hk : FirstAt (fun i => okR (lo i) (hi i) r) n n) : false = hasR lo hi n r := by
  symm
  unfold hasR
  rw [List.any_eq_false]
  intro i hi'
  have hin' : i < n := by simpa using hi'
  have := hk.2.1 i hin'
  simp only [okR_iff (h.1 i hin'), decide_eq_false_iff_not] at this
  simp [inR]
  omega
end Go.Proofs.Ythjampbabfmmpaa
