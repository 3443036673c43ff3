/- The walk of the law itself. -/
import Derived.Test.YthjampbabfmmpaaTwo
namespace Go.Proofs.Ythjampbabfmmpaa
open Go.RowKit Go.Sort

set_option maxHeartbeats 2000000 in
theorem law_walk (b off n cap : Nat) (lo hi : Nat → Int) (r : Int) (w : World) (hn : n ≤ 20) (hb : b < w.heap.size)
    (hl : ∀ i, i < n → w.cell? ⟨b, off + i * 2, none⟩ = some (.int .i32 (lo i))) (hh : ∀ i, i < n → w.cell? ⟨b, off + i * 2 + 1, none⟩ = some (.int .i32 (hi i))) :
    Calls Try.prog 3 #[.slice (some ⟨b, off, none⟩) n cap, .int .i32 r] w (Tells true w) := by
  have h1 : ¬ 2147483647 < (n : Int) := by omega
  have h2 : ¬ 20 < (n : Int) := by omega
  have HL := hide hl
  have HH := hide hh
  clear hl hh
  go_enter Try.func3, Try.ntmps3
  go_wp2
  go_loopw [5, 6, 7, 20] (fun s5 s6 s7 j wr => LawRel lo hi n r w s5 s6 s7 j wr) (fun _ _ _ j _ => n - (intOf j).toNat)
  case atStart => exact law_start lo hi n r w
  case round =>
    obtain ⟨k, g5, c5, g6, c6, hk, rfl, rfl, rfl, rfl, T, hasc⟩ := hrel
    have hbl := T.below
    by_cases hlt : k < n
    · have hlt' : (k : Int) < (n : Int) := by omega
      have cl' : wr.cell? ⟨b, off + k * 2, none⟩ = some (.int .i32 (lo k)) := (hbl.cell (by exact hb)).trans (HL.out k hlt)
      have ch' : wr.cell? ⟨b, off + k * 2 + 1, none⟩ = some (.int .i32 (hi k)) := (hbl.cell (by exact hb)).trans (HH.out k hlt)
      by_cases hA : hi k < lo k
      · have hd : decide (hi k < lo k) = true := by simpa using hA
        have HB := hide hbl
        clear T hbl hasc
        go_wp2
        go_quiet (fail)
        go_wp2
        go_ret
        exact tells_mk rfl rfl (HB.out.trans (below_drawn ((Below.refl _ _).alloc HB.out.size _) _))
      · have hdA : decide (hi k < lo k) = false := by simpa using hA
        by_cases h0 : 0 < k
        · obtain ⟨m, rfl⟩ : ∃ m, k = m + 1 := ⟨k - 1, by omega⟩
          have hd0 : decide ((0 : Int) < (m : Int) + 1) = true := by simp
          have hw : IntKind.i64.wrap (m : Int) = (m : Int) := IntWalk.i64_in _ (by omega)
          have cp : wr.cell? ⟨b, off + m * 2 + 1, none⟩ = some (.int .i32 (hi m)) := (hbl.cell (by exact hb)).trans (HH.out m (by omega))
          have cpX : (wr.alloc (.cells #[.int .i32 (lo (m + 1)), .int .i32 (hi (m + 1))] 24)).cell? ⟨b, off + m * 2 + 1, none⟩ = some (.int .i32 (hi m)) := by
            rw [World.cell?_alloc_past _ _ _ (by have := hbl.size; show b < _; omega)]; exact cp
          have hm1 : (m : Int) < (n : Int) := by omega
          by_cases hC : lo (m + 1) ≤ hi m
          · have hd : decide (lo (m + 1) ≤ hi m) = true := by simpa using hC
            have HB := hide hbl
            clear T hbl hasc
            go_wp2
            go_quiet (fail)
            go_wp2
            go_ret
            exact tells_mk rfl rfl (HB.out.trans (below_drawn ((Below.refl _ _).alloc HB.out.size _) _))
          · have hd : decide (lo (m + 1) ≤ hi m) = false := by simpa using hC
            have hA2 := hide (asc_succ hasc hA (fun m' e => by cases e; exact hC))
            have HT := hide T
            clear hasc T hbl
            go_wp2
            go_quiet (fail)
            go_wp2
            have hx : ((wr.alloc (.cells #[.int .i32 (lo (m + 1)), .int .i32 (hi (m + 1))] 24)).drewN nq).cell? ⟨wr.heap.size, 0, none⟩ = some (.int .i32 (lo (m + 1))) ∧ ((wr.alloc (.cells #[.int .i32 (lo (m + 1)), .int .i32 (hi (m + 1))] 24)).drewN nq).cell? ⟨wr.heap.size, 1, none⟩ = some (.int .i32 (hi (m + 1))) := by
              rw [World.cell?_drewN, World.cell?_drewN, World.cell?_alloc_at _ _ _ _ rfl, World.cell?_alloc_at _ _ _ _ rfl]; exact ⟨rfl, rfl⟩
            have hs5 := (HT.out.low.lt g5 rfl).2
            have hs6 := (HT.out.high.lt g6 rfl).2
            have TX : Two w ((wr.alloc (.cells #[.int .i32 (lo (m + 1)), .int .i32 (hi (m + 1))] 24)).drewN nq) g5 c5 (m + 1) g6 c6 (m + 1) lo hi := two_drawn (HT.out.alloc _) nq
            have hsx : ((wr.alloc (.cells #[.int .i32 (lo (m + 1)), .int .i32 (hi (m + 1))] 24)).drewN nq).heap.size = wr.heap.size + 1 := by simp
            clear HT cl' ch' cp cpX
            generalize ((wr.alloc (.cells #[.int .i32 (lo (m + 1)), .int .i32 (hi (m + 1))] 24)).drewN nq) = wx at *
            generalize wr.heap.size = bx at *
            have n5 : bx ≠ g5 := by omega
            have n6 : bx ≠ g6 := by omega
            have hg5 : g5 < wx.heap.size := by omega
            clear hsx
            go_region_held3 (fun w' => w'.cell? ⟨bx, 0, none⟩ = some (.int .i32 (lo (m + 1))) ∧ w'.cell? ⟨bx, 1, none⟩ = some (.int .i32 (hi (m + 1))))
              (first | exact hx | assumption | exact xs_alloc (by assumption) _ | exact xs_far (by assumption) F5 n5 | exact xs_far (by assumption) F6 n6)
              (first
                | (refine step_low rfl (.tmp 45) (.tmp 48) rfl rfl rfl (by first | exact heap_alloc_new _ _ | exact heap_alloc2_new _ _ _ | exact heap_alloc2_old _ _ _) (by omega) (by first | exact (TX.alloc _).drew | exact ((TX.alloc _).alloc _).drew) ?_; intro g cap5 w1 T1 F5)
                | (refine step_high rfl (.tmp 50) (.tmp 53) rfl rfl rfl (by first | exact heap_alloc_new _ _ | exact far_new1 F5 hg5 | exact far_new0 F5 hg5) (by omega) (by first | exact T1 | exact T1.alloc _) ?_; intro g' cap6 w2 T2 F6))
            all_goals
              have hxx : w2.cell? ⟨bx, 0, none⟩ = some (.int .i32 (lo (m + 1))) ∧ w2.cell? ⟨bx, 1, none⟩ = some (.int .i32 (hi (m + 1))) := by assumption
              obtain ⟨e0, e1⟩ := hxx
              clear hx TX T1 F5 F6
              go_wp2
              all_goals
                go_roundw
                case rel => exact law_next hlt T2 hA2.out (by go_num) (by first | exact end_yes (by assumption) | exact end_mid (by assumption) (by assumption) | exact end_no (by assumption) (by assumption))
                case measure => simp [intOf]; omega
        · have hd0 : decide ((0 : Int) < (k : Int)) = false := by simp; omega
          have hA2 := hide (asc_succ hasc hA (fun m e => by omega))
          have HT := hide T
          clear hasc T hbl
          go_wp2
          go_quiet (fail)
          go_wp2
          have hx : ((wr.alloc (.cells #[.int .i32 (lo k), .int .i32 (hi k)] 24)).drewN nq).cell? ⟨wr.heap.size, 0, none⟩ = some (.int .i32 (lo k)) ∧ ((wr.alloc (.cells #[.int .i32 (lo k), .int .i32 (hi k)] 24)).drewN nq).cell? ⟨wr.heap.size, 1, none⟩ = some (.int .i32 (hi k)) := by
            rw [World.cell?_drewN, World.cell?_drewN, World.cell?_alloc_at _ _ _ _ rfl, World.cell?_alloc_at _ _ _ _ rfl]; exact ⟨rfl, rfl⟩
          have hs5 := (HT.out.low.lt g5 rfl).2
          have hs6 := (HT.out.high.lt g6 rfl).2
          have TX : Two w ((wr.alloc (.cells #[.int .i32 (lo k), .int .i32 (hi k)] 24)).drewN nq) g5 c5 k g6 c6 k lo hi := two_drawn (HT.out.alloc _) nq
          have hsx : ((wr.alloc (.cells #[.int .i32 (lo k), .int .i32 (hi k)] 24)).drewN nq).heap.size = wr.heap.size + 1 := by simp
          clear HT cl' ch'
          generalize ((wr.alloc (.cells #[.int .i32 (lo k), .int .i32 (hi k)] 24)).drewN nq) = wx at *
          generalize wr.heap.size = bx at *
          have n5 : bx ≠ g5 := by omega
          have n6 : bx ≠ g6 := by omega
          have hg5 : g5 < wx.heap.size := by omega
          clear hsx
          go_region_held3 (fun w' => w'.cell? ⟨bx, 0, none⟩ = some (.int .i32 (lo k)) ∧ w'.cell? ⟨bx, 1, none⟩ = some (.int .i32 (hi k)))
            (first | exact hx | assumption | exact xs_alloc (by assumption) _ | exact xs_far (by assumption) F5 n5 | exact xs_far (by assumption) F6 n6)
            (first
              | (refine step_low rfl (.tmp 45) (.tmp 48) rfl rfl rfl (by first | exact heap_alloc_new _ _ | exact heap_alloc2_new _ _ _ | exact heap_alloc2_old _ _ _) (by omega) (by first | exact (TX.alloc _).drew | exact ((TX.alloc _).alloc _).drew) ?_; intro g cap5 w1 T1 F5)
              | (refine step_high rfl (.tmp 50) (.tmp 53) rfl rfl rfl (by first | exact heap_alloc_new _ _ | exact far_new1 F5 hg5 | exact far_new0 F5 hg5) (by omega) (by first | exact T1 | exact T1.alloc _) ?_; intro g' cap6 w2 T2 F6))
          all_goals
            have hxx : w2.cell? ⟨bx, 0, none⟩ = some (.int .i32 (lo k)) ∧ w2.cell? ⟨bx, 1, none⟩ = some (.int .i32 (hi k)) := by assumption
            obtain ⟨e0, e1⟩ := hxx
            clear hx TX T1 F5 F6
            go_wp2
            all_goals
              go_roundw
              case rel => exact law_next hlt T2 hA2.out (by go_num) (by first | exact end_yes (by assumption) | exact end_mid (by assumption) (by assumption) | exact end_no (by assumption) (by assumption))
              case measure => simp [intOf]; omega
    · obtain rfl : k = n := by omega
      have hge : ¬ (k : Int) < (k : Int) := by omega
      have HC := own_walk g5 g6 k c5 c6 lo hi r wr hn (T.low.lt g5 rfl).2 (T.high.lt g6 rfl).2 T.cells.1 T.cells.2 hasc
      have HB := hide hbl
      cases h7 : hasR lo hi k r <;> rw [h7] at HC
      all_goals
        have HH := hide HC
        clear h7 HC T hbl hasc
        go_wp2_with fail
        refine HH.out.mono ?_
        rintro e w1 ⟨rfl, hb1⟩
        go_wp2_with fail
        refine (one_walk w1).mono ?_
        rintro e w2 ⟨rfl, hb2⟩
        go_wp2
        go_ret
        exact tells_mk rfl rfl ((HB.out.trans (hb1.mono HB.out.size)).trans ((((Below.refl _ _).alloc (Nat.le_trans HB.out.size hb1.size) _).alloc (Nat.le_trans (Nat.le_trans HB.out.size hb1.size) (by simp)) _).trans (hb2.mono (Nat.le_trans (Nat.le_trans HB.out.size hb1.size) (by simp; omega)))))
end Go.Proofs.Ythjampbabfmmpaa
