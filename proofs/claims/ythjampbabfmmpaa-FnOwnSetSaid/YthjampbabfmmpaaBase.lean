/- The walks of the two methods of a single range, and of the test that the search is handed. -/
import Derived.Test.YthjampbabfmmpaaProg
import Derived.WalkKit
import Derived.Lib.QuietBelow
import Derived.Deep.MidRow
namespace Go.Proofs.Ythjampbabfmmpaa
open Go.RowKit Go.Sort

/-- Does the range from x to y hold r? -/
def inR (x y r : Int) : Bool := decide (x ≤ r) && decide (r ≤ y)
/-- Is r at or below the range's begin? -/
def upR (x r : Int) : Bool := decide (r ≤ x)

/-- The call answers b and has only laid new blocks. -/
def Tells (b : Bool) (w : World) (e : Ending) (w' : World) : Prop := e = .returned (.bool b) ∧ Below w.heap.size w w'

theorem tells_mk {b c : Bool} {w : World} {e : Ending} {w' : World} (h : c = b) (he : e = .returned (.bool c)) (hb : Below w.heap.size w w') : Tells b w e w' := ⟨by rw [he, h], hb⟩

set_option maxHeartbeats 400000 in
theorem rrContains (x y r : Int) (w : World) :
    Calls Try.prog 8 #[.agg #[.int .i32 x, .int .i32 y], .int .i32 r] w (Tells (inR x y r) w) := by
  by_cases h1 : x ≤ r
  · have hd : decide (x ≤ r) = true := by simpa using h1
    have H : Hid (decide (r ≤ y) = inR x y r) := by show _ = _; simp [inR, h1]
    go_enter Try.func8, Try.ntmps8
    go_wp2
    go_ret
    exact tells_mk H.out rfl ((Below.refl _ _).alloc (Nat.le_refl _) _)
  · have hd : decide (x ≤ r) = false := by simpa using h1
    have H : Hid (false = inR x y r) := by show _ = _; simp [inR, h1]
    clear h1
    go_enter Try.func8, Try.ntmps8
    go_wp2
    go_ret
    exact tells_mk H.out rfl ((Below.refl _ _).alloc (Nat.le_refl _) _)

set_option maxHeartbeats 400000 in
theorem rrAbove (x y r : Int) (w : World) :
    Calls Try.prog 9 #[.agg #[.int .i32 x, .int .i32 y], .int .i32 r] w (Tells (upR x r) w) := by
  go_enter Try.func9, Try.ntmps9
  go_wp2
  go_ret
  exact tells_mk rfl rfl ((Below.refl _ _).alloc (Nat.le_refl _) _)
end Go.Proofs.Ythjampbabfmmpaa
