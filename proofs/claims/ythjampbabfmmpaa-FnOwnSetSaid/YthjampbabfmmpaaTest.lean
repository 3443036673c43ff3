/- The walk of the test that the search is handed. -/
import Derived.Test.YthjampbabfmmpaaBase
namespace Go.Proofs.Ythjampbabfmmpaa
open Go.RowKit Go.Sort

theorem tells_regrown {b : Bool} {f : FuncId} {args : Array Value} {w : World} {d : Nat} {os : Array Obj}
    (h : Calls Try.prog f args (grow (redrawn w d) os) (Tells b (grow (redrawn w d) os))) :
    Calls Try.prog f args (grow (redrawn w d) os) fun e w'' => e = .returned (.bool b) ∧ ∃ p : Regrown, w'' = grow (redrawn w p.d) p.os :=
  Calls.regrown_of h

/-- What the test says of the range from x to y. -/
def okR (x y r : Int) : Bool := inR x y r || upR x r

set_option maxHeartbeats 400000 in
theorem closure_walk (bs br g : Nat) (n cap : Nat) (i : Nat) (x y r : Int) (w : World) (hi : (i : Int) < (n : Int))
    (c0 : w.cell? ⟨bs, 0, none⟩ = some (.slice (some ⟨g, 0, none⟩) n cap)) (c1 : w.cell? ⟨br, 0, none⟩ = some (.int .i32 r))
    (cx : w.cell? ⟨g, i * 2, none⟩ = some (.int .i32 x)) (cy : w.cell? ⟨g, i * 2 + 1, none⟩ = some (.int .i32 y)) :
    Calls Try.prog 7 #[.int .i64 i, .pointer (some ⟨bs, 0, none⟩), .pointer (some ⟨br, 0, none⟩)] w (Tells (okR x y r) w) := by
  have k0 := cell_regrown c0
  have k1 := cell_regrown c1
  have k2 := cell_regrown cx
  have k3 := cell_regrown cy
  cases hb : inR x y r with
  | true =>
    have H : Hid (true = okR x y r) := by show _ = _; simp [okR, hb]
    have C8 : ∀ d os, Calls Try.prog 8 #[.agg #[.int .i32 x, .int .i32 y], .int .i32 r] (grow (redrawn w d) os) fun e w'' => e = .returned (.bool true) ∧ ∃ p : Regrown, w'' = grow (redrawn w p.d) p.os := fun d os => by
      have := tells_regrown (rrContains x y r (grow (redrawn w d) os)); rw [hb] at this; exact this
    clear hb
    go_enter Try.func7, Try.ntmps7
    go_wp2
    refine wp_region_quiet_below (by kernel_rfl) (by kernel_rfl) ?_
    repeat (quiet_step (exact C8 _ _))
    refine wpQuiet_nil ?_
    intro _ hw'
    obtain ⟨⟨dq, osq⟩, hw''⟩ := hw'
    subst hw''
    go_wp2
    go_ret
    exact tells_mk H.out rfl (below_regrown w dq osq)
  | false =>
    have H : Hid (upR x r = okR x y r) := by show _ = _; simp [okR, hb]
    have C8 : ∀ d os, Calls Try.prog 8 #[.agg #[.int .i32 x, .int .i32 y], .int .i32 r] (grow (redrawn w d) os) fun e w'' => e = .returned (.bool false) ∧ ∃ p : Regrown, w'' = grow (redrawn w p.d) p.os := fun d os => by
      have := tells_regrown (rrContains x y r (grow (redrawn w d) os)); rw [hb] at this; exact this
    have C9 : ∀ d os, Calls Try.prog 9 #[.agg #[.int .i32 x, .int .i32 y], .int .i32 r] (grow (redrawn w d) os) fun e w'' => e = .returned (.bool (upR x r)) ∧ ∃ p : Regrown, w'' = grow (redrawn w p.d) p.os := fun d os =>
      tells_regrown (rrAbove x y r (grow (redrawn w d) os))
    clear hb
    go_enter Try.func7, Try.ntmps7
    go_wp2
    refine wp_region_quiet_below (by kernel_rfl) (by kernel_rfl) ?_
    repeat (quiet_step (first | exact C8 _ _ | exact C9 _ _))
    refine wpQuiet_nil ?_
    intro _ hw'
    obtain ⟨⟨dq, osq⟩, hw''⟩ := hw'
    subst hw''
    go_wp2
    go_ret
    exact tells_mk H.out rfl (below_regrown w dq osq)
end Go.Proofs.Ythjampbabfmmpaa
