/- The walks of the law where it answers at once: no range, or more than twenty. -/
import Derived.Test.YthjampbabfmmpaaLaw
namespace Go.Proofs.Ythjampbabfmmpaa
open Go.RowKit Go.Sort

set_option maxHeartbeats 1000000 in
/-- More than twenty ranges. -/
theorem law_many (a : Option Addr) (n cap : Nat) (r : Int) (w : World) (hn : 20 < n) :
    Calls Try.prog 3 #[.slice a n cap, .int .i32 r] w (Tells true w) := by
  have h2 : (20 : Int) < (n : Int) := by omega
  by_cases h : n ≤ 2147483647
  · have h1 : ¬ (2147483647 : Int) < (n : Int) := by omega
    go_enter Try.func3, Try.ntmps3
    go_wp2
    go_ret
    exact tells_mk rfl rfl (Below.refl _ _)
  · have h1 : (2147483647 : Int) < (n : Int) := by omega
    clear h2 hn h
    go_enter Try.func3, Try.ntmps3
    go_wp2
    go_ret
    exact tells_mk rfl rfl (Below.refl _ _)

set_option maxHeartbeats 1000000 in
/-- No range at all. -/
theorem law_empty (a : Option Addr) (cap : Nat) (r : Int) (w : World) :
    Calls Try.prog 3 #[.slice a 0 cap, .int .i32 r] w (Tells true w) := by
  have T : Two w ((w.alloc (.cells #[] 21)).alloc (.cells #[] 21)) w.heap.size 0 0 (w.heap.size + 1) 0 0 (fun _ => 0) (fun _ => 0) := by
    refine ⟨?_, ?_, by omega, ((Below.refl _ _).alloc (Nat.le_refl _) _).alloc (by simp) _⟩
    · exact (World.ownsRow_made w #[] 0 (Nat.le_refl _) (by unfold maxLen; omega) rfl).alloc _
    · have := World.ownsRow_made (base := w.heap.size) (e := 21) (size := 1) (w.alloc (.cells #[] 21)) #[] 0 (by simp) (by unfold maxLen; omega) rfl
      simpa [ends] using this
  have HC := hide (own_walk w.heap.size (w.heap.size + 1) 0 0 0 (fun _ => 0) (fun _ => 0) r ((w.alloc (.cells #[] 21)).alloc (.cells #[] 21)) (by omega) (T.low.lt _ rfl).2 (T.high.lt _ rfl).2
    (fun i h => absurd h (Nat.not_lt_zero _)) (fun i h => absurd h (Nat.not_lt_zero _)) ⟨fun i h => absurd h (Nat.not_lt_zero _), fun i h => absurd h (Nat.not_lt_zero _)⟩)
  have HB := hide T.below
  clear T
  go_enter Try.func3, Try.ntmps3
  go_wp2
  refine wp_loop_rounds 1 ?_
  rw [rounds_succ]
  go_wp2_with fail
  refine HC.out.mono ?_
  rintro e w1 ⟨rfl, hb1⟩
  go_wp2_with fail
  refine (one_walk w1).mono ?_
  rintro e w2 ⟨rfl, hb2⟩
  go_wp2
  go_ret
  exact tells_mk rfl rfl ((HB.out.trans (hb1.mono HB.out.size)).trans ((((Below.refl _ _).alloc (Nat.le_trans HB.out.size hb1.size) _).alloc (Nat.le_trans (Nat.le_trans HB.out.size hb1.size) (by simp)) _).trans (hb2.mono (Nat.le_trans (Nat.le_trans HB.out.size hb1.size) (by simp; omega)))))
end Go.Proofs.Ythjampbabfmmpaa
