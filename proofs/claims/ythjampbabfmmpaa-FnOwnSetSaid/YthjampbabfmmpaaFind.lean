/- The walk of the library's binary search over the test on a set's ranges. -/
import Derived.Test.YthjampbabfmmpaaTest
namespace Go.Proofs.Ythjampbabfmmpaa
open Go.RowKit Go.Sort

theorem hide {p : Prop} (h : p) : Hid p := h

/-- k is the first place below n at which p says yes (n, if there is none). -/
def FirstAt (p : Nat → Bool) (n k : Nat) : Prop := k ≤ n ∧ (∀ t, t < k → p t = false) ∧ (k < n → p k = true)
/-- The search answers such a place. -/
def Finds (p : Nat → Bool) (n : Nat) (w : World) (e : Ending) (w' : World) : Prop := ∃ k, FirstAt p n k ∧ e = .returned (.int .i64 (k : Nat)) ∧ Below w.heap.size w w'
/-- What holds at every round's head. -/
def Mid (p : Nat → Bool) (n lo hi : Nat) : Prop := (∀ t, t < lo → p t = false) ∧ (∀ t, hi ≤ t → t < n → p t = true)

theorem finds_mk {p : Nat → Bool} {n k : Nat} {w : World} {e : Ending} {w' : World} (h : Mid p n k k) (hk : k ≤ n) (he : e = .returned (.int .i64 (k : Nat))) (hb : Below w.heap.size w w') : Finds p n w e w' :=
  ⟨k, ⟨hk, h.1, fun hlt => h.2 k (Nat.le_refl _) hlt⟩, he, hb⟩

theorem mid_no {p : Nat → Bool} {n lo hi m : Nat} (hm : ∀ a b, a ≤ b → b < n → p a = true → p b = true) (h : Mid p n lo hi) (hn : m < n) (hp : p m = false) : Mid p n (m + 1) hi :=
  ⟨fun t ht => (by
    cases e : p t with
    | false => rfl
    | true => have := hm t m (by omega) hn e; rw [hp] at this; cases this), h.2⟩
theorem mid_yes {p : Nat → Bool} {n lo hi m : Nat} (hm : ∀ a b, a ≤ b → b < n → p a = true → p b = true) (h : Mid p n lo hi) (hp : p m = true) : Mid p n lo m :=
  ⟨h.1, fun t h1 h2 => hm m t h1 h2 hp⟩

set_option maxHeartbeats 400000 in
theorem search_walk (bs br n : Nat) (p : Nat → Bool) (w : World) (hn : n ≤ 1000000)
    (hf : ∀ W i, Below w.heap.size w W → i < n → Calls Try.prog 7 #[.int .i64 (i : Nat), .pointer (some ⟨bs, 0, none⟩), .pointer (some ⟨br, 0, none⟩)] W (Tells (p i) W))
    (hmono : ∀ a b, a ≤ b → b < n → p a = true → p b = true) :
    Calls Try.prog 6 #[.int .i64 n, .func (.func 7) #[] #[.pointer (some ⟨bs, 0, none⟩), .pointer (some ⟨br, 0, none⟩)]] w (Finds p n w) := by
  have HF := hide hf
  have HM := hide hmono
  clear hf hmono
  go_enter Try.func6, Try.ntmps6
  go_wp2
  go_loopw [5, 6] (fun s5 s6 wr => ∃ lo hi : Nat, s5 = .int .i64 lo ∧ s6 = .int .i64 hi ∧ lo ≤ hi ∧ hi ≤ n ∧ Below w.heap.size w wr ∧ Mid p n lo hi) (fun s5 s6 _ => (intOf s6 - intOf s5).toNat)
  case atStart => exact ⟨0, n, rfl, rfl, Nat.zero_le _, Nat.le_refl _, Below.refl _ _, fun t ht => absurd ht (Nat.not_lt_zero _), fun t h1 h2 => by omega⟩
  case round =>
    obtain ⟨lo, hi, rfl, rfl, hlh, hin, hbl, I⟩ := hrel
    by_cases hlt : lo < hi
    · have hc := HF.out wr ((lo + hi) / 2) hbl (by omega)
      rw [show (((lo + hi) / 2 : Nat) : Int) = ((lo : Int) + (hi : Int)) / 2 by omega] at hc
      cases hp : p ((lo + hi) / 2) <;> rw [hp] at hc
      · have I2 := mid_no HM.out I (by omega) hp
        clear hp
        have HC := hide hc
        clear hc
        go_wp2_with (go_at_call 7; refine HC.out.mono ?_; rintro e w' ⟨rfl, hb2⟩)
        go_roundw
        case rel => exact ⟨(lo + hi) / 2 + 1, hi, by go_num, rfl, by omega, hin, hbl.trans (hb2.mono hbl.size), I2⟩
        case measure => simp [intOf]; omega
      · have I2 := mid_yes HM.out I hp
        clear hp
        have HC := hide hc
        clear hc
        go_wp2_with (go_at_call 7; refine HC.out.mono ?_; rintro e w' ⟨rfl, hb2⟩)
        go_roundw
        case rel => exact ⟨lo, (lo + hi) / 2, rfl, by go_num, by omega, by omega, hbl.trans (hb2.mono hbl.size), I2⟩
        case measure => simp [intOf]; omega
    · obtain rfl : hi = lo := by omega
      go_wp2
      go_ret
      exact finds_mk I hin rfl hbl
end Go.Proofs.Ythjampbabfmmpaa
