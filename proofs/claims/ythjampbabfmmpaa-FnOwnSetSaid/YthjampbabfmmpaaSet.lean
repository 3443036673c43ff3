/- The walk of a set's own method: does it hold a number? -/
import Derived.Test.YthjampbabfmmpaaPlain
namespace Go.Proofs.Ythjampbabfmmpaa
open Go.RowKit Go.Sort

/-- The cells of block g are n ranges, two cells each. -/
def Pairs (w : World) (g : Nat) (lo hi : Nat → Int) (n : Nat) : Prop :=
  ∀ i, i < n → w.cell? ⟨g, i * 2, none⟩ = some (.int .i32 (lo i)) ∧ w.cell? ⟨g, i * 2 + 1, none⟩ = some (.int .i32 (hi i))

theorem Pairs.below {w w' : World} {g n : Nat} {lo hi : Nat → Int} {B : Nat} (h : Pairs w g lo hi n) (hb : Below B w w') (hg : g < B) : Pairs w' g lo hi n := fun i hi' =>
  ⟨(hb.cell (by exact hg)).trans (h i hi').1, (hb.cell (by exact hg)).trans (h i hi').2⟩

/-- The two boxes that the method lays: the set and the number. -/
abbrev Boxes (w : World) (s : Value) (r : Int) : World := (w.alloc (.cells #[s] 28)).alloc (.cells #[.int .i32 r] 21)

theorem boxes_below (w : World) (s : Value) (r : Int) : Below w.heap.size w (Boxes w s r) := ((Below.refl _ _).alloc (Nat.le_refl _) _).alloc (by simp) _
theorem boxes_s (w : World) (s : Value) (r : Int) : (Boxes w s r).cell? ⟨w.heap.size, 0, none⟩ = some s := by
  rw [World.cell?_alloc_past _ _ _ (by simp), World.cell?_alloc_at _ _ _ _ rfl]; rfl
theorem boxes_r (w : World) (s : Value) (r : Int) : (Boxes w s r).cell? ⟨w.heap.size + 1, 0, none⟩ = some (.int .i32 r) := by
  rw [World.cell?_alloc_at _ _ _ _ (by simp)]; rfl

set_option maxHeartbeats 1000000 in
theorem set_walk (g n cap : Nat) (lo hi : Nat → Int) (r : Int) (w : World) (hn : n ≤ 1000000) (hg : g < w.heap.size) (hp : Pairs w g lo hi n) (ha : Asc lo hi n) :
    Calls Try.prog 5 #[.slice (some ⟨g, 0, none⟩) n cap, .int .i32 r] w (Tells (hasR lo hi n r) w) := by
  have S := boxes_s w (.slice (some ⟨g, 0, none⟩) n cap) r
  have R := boxes_r w (.slice (some ⟨g, 0, none⟩) n cap) r
  have B := boxes_below w (.slice (some ⟨g, 0, none⟩) n cap) r
  have HP := hide (hp.below B hg)
  have hz : (Boxes w (.slice (some ⟨g, 0, none⟩) n cap) r).heap.size = w.heap.size + 2 := by simp
  have SW := search_walk w.heap.size (w.heap.size + 1) n (fun i => okR (lo i) (hi i) r) (Boxes w (.slice (some ⟨g, 0, none⟩) n cap) r) hn
    (fun W i hW hi' => closure_walk _ _ g n cap i (lo i) (hi i) r W (by omega)
      ((hW.cell (by show w.heap.size < _; omega)).trans S) ((hW.cell (by show w.heap.size + 1 < _; omega)).trans R)
      ((hW.cell (by show g < _; omega)).trans (HP.out i hi').1) ((hW.cell (by show g < _; omega)).trans (HP.out i hi').2))
    (ok_mono ha r)
  have HS := hide SW
  have HZ := hide hz
  clear SW hz
  have hmf : ∀ (fn : Fn) (first cap : Array Value) (w : World), (Instr.makeFunc fn first cap).run Try.prog w = .ok (.func fn first cap) w := fun _ _ _ _ => rfl
  go_enter Try.func5, Try.ntmps5
  go_wp2_with fail
  refine HS.out.mono ?_
  rintro e w' ⟨k, hk, rfl, hb⟩
  have k0 := cell_regrown ((hb.cell (by show w.heap.size < _; rw [HZ.out]; omega)).trans S)
  have k1 := cell_regrown ((hb.cell (by show w.heap.size + 1 < _; rw [HZ.out]; omega)).trans R)
  have HB := hide (B.trans (hb.mono (by rw [HZ.out]; omega)))
  by_cases hlt : k < n
  · have hlt' : (k : Int) < (n : Int) := by omega
    have hd : decide ((k : Int) < (n : Int)) = true := by simpa using hlt'
    have k2 := cell_regrown (((hp.below HB.out hg) k hlt).1)
    have k3 := cell_regrown (((hp.below HB.out hg) k hlt).2)
    have C8 : ∀ d os, Calls Try.prog 8 #[.agg #[.int .i32 (lo k), .int .i32 (hi k)], .int .i32 r] (grow (redrawn w' d) os) fun e w'' => e = .returned (.bool (hasR lo hi n r)) ∧ ∃ p : Regrown, w'' = grow (redrawn w' p.d) p.os := fun d os => by
      have := tells_regrown (rrContains (lo k) (hi k) r (grow (redrawn w' d) os)); rw [has_at ha hk hlt] at this; exact this
    have HH : Hid (∀ dq osq, Below w.heap.size w (grow (redrawn w' dq) osq)) := fun dq osq => HB.out.trans ((below_regrown w' dq osq).mono HB.out.size)
    clear HB hk hb HS S R B HP hp ha
    go_wp2_with fail
    refine wp_region_quiet_below (by kernel_rfl) (by kernel_rfl) ?_
    repeat (quiet_step (exact C8 _ _))
    refine wpQuiet_nil ?_
    intro _ hw'
    obtain ⟨⟨dq, osq⟩, hw''⟩ := hw'
    subst hw''
    go_wp2
    · have hh : hasR lo hi n r = true := by assumption
      go_ret
      exact tells_mk hh.symm rfl (HH.out dq osq)
    · have hh : hasR lo hi n r = false := by assumption
      go_ret
      exact tells_mk hh.symm rfl (HH.out dq osq)
  · obtain rfl : k = n := by have := hk.1; omega
    have HE := hide (has_none ha hk)
    have HH : Hid (∀ dq osq, Below w.heap.size w (grow (redrawn w' dq) osq)) := fun dq osq => HB.out.trans ((below_regrown w' dq osq).mono HB.out.size)
    clear HB hk hb HS S R B HP hp ha hlt
    go_wp2_with fail
    refine wp_region_quiet_below (by kernel_rfl) (by kernel_rfl) ?_
    repeat (quiet_step (fail))
    refine wpQuiet_nil ?_
    intro _ hw'
    obtain ⟨⟨dq, osq⟩, hw''⟩ := hw'
    subst hw''
    go_wp2
    go_ret
    exact tells_mk HE.out rfl (HH.out dq osq)

set_option maxHeartbeats 1000000 in
/-- A set without ranges holds nothing. -/
theorem set_none (r : Int) (w : World) :
    Calls Try.prog 5 #[.slice none 0 0, .int .i32 r] w (Tells false w) := by
  have S := boxes_s w (.slice none 0 0) r
  have B := boxes_below w (.slice none 0 0) r
  have hz : (Boxes w (.slice none 0 0) r).heap.size = w.heap.size + 2 := by simp
  have HS := hide (search_walk w.heap.size (w.heap.size + 1) 0 (fun _ => false) (Boxes w (.slice none 0 0) r) (by omega) (fun W i _ hi' => absurd hi' (Nat.not_lt_zero _)) (fun _ _ _ h => absurd h (Nat.not_lt_zero _)))
  have HZ := hide hz
  clear hz
  have hmf : ∀ (fn : Fn) (first cap : Array Value) (w : World), (Instr.makeFunc fn first cap).run Try.prog w = .ok (.func fn first cap) w := fun _ _ _ _ => rfl
  go_enter Try.func5, Try.ntmps5
  go_wp2_with fail
  refine HS.out.mono ?_
  rintro e w' ⟨k, hk, rfl, hb⟩
  obtain rfl : k = 0 := by have := hk.1; omega
  have k0 := cell_regrown ((hb.cell (by show w.heap.size < _; rw [HZ.out]; omega)).trans S)
  have HH : Hid (∀ dq osq, Below w.heap.size w (grow (redrawn w' dq) osq)) := fun dq osq =>
    (B.trans (hb.mono (by rw [HZ.out]; omega))).trans ((below_regrown w' dq osq).mono (B.trans (hb.mono (by rw [HZ.out]; omega))).size)
  clear hk hb HS S B
  go_wp2_with fail
  refine wp_region_quiet_below (by kernel_rfl) (by kernel_rfl) ?_
  repeat (quiet_step (fail))
  refine wpQuiet_nil ?_
  intro _ hw'
  obtain ⟨⟨dq, osq⟩, hw''⟩ := hw'
  subst hw''
  go_wp2
  go_ret
  exact tells_mk rfl rfl (HH.out dq osq)
end Go.Proofs.Ythjampbabfmmpaa
