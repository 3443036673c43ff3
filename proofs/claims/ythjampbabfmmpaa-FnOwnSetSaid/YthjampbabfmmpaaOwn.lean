/- The walk of the call that makes a set of two lists and asks it. -/
import Derived.Test.YthjampbabfmmpaaSet
import Derived.Deep.AppendLies
import Derived.Deep.RegionLaw
namespace Go.Proofs.Ythjampbabfmmpaa
open Go.RowKit Go.Sort

theorem Try.info29 : (Try.prog.info? 29).map (fun i => (i.zero, i.size, i.bytes)) = some (some (.agg #[.int .i32 0, .int .i32 0]), 2, 8) := by kernel_rfl

/-- The cells of the first k ranges, one behind the other. -/
def flat (lo hi : Nat → Int) (k : Nat) : List Value := (List.range k).flatMap fun i => [.int .i32 (lo i), .int .i32 (hi i)]

theorem flat_succ (lo hi : Nat → Int) (k : Nat) : flat lo hi (k + 1) = flat lo hi k ++ [.int .i32 (lo k), .int .i32 (hi k)] := by
  unfold flat; rw [List.range_succ]; simp

theorem flat_length (lo hi : Nat → Int) : ∀ k, (flat lo hi k).length = k * 2
  | 0 => rfl
  | k + 1 => by rw [flat_succ, List.length_append, flat_length lo hi k]; simp; omega

theorem flat_get (lo hi : Nat → Int) : ∀ (k i : Nat), i < k → (flat lo hi k)[i * 2]? = some (.int .i32 (lo i)) ∧ (flat lo hi k)[i * 2 + 1]? = some (.int .i32 (hi i))
  | 0, _, h => absurd h (Nat.not_lt_zero _)
  | k + 1, i, h => by
    rw [flat_succ]
    by_cases e : i = k
    · subst e
      rw [List.getElem?_append_right (by rw [flat_length]; omega), List.getElem?_append_right (by rw [flat_length]; omega), flat_length]
      rw [show i * 2 - i * 2 = 0 by omega, show i * 2 + 1 - i * 2 = 1 by omega]
      exact ⟨rfl, rfl⟩
    · have h' : i < k := by omega
      rw [List.getElem?_append_left (by rw [flat_length]; omega), List.getElem?_append_left (by rw [flat_length]; omega)]
      exact flat_get lo hi k i h'

/-- A list of ranges that the call owns is so many pairs of cells. -/
theorem pairs_of_own {w : World} {B g n cap : Nat} {lo hi : Nat → Int} (h : w.ownsRow B 29 2 (.slice (some ⟨g, 0, none⟩) n cap) n (flat lo hi n)) : Pairs w g lo hi n := by
  intro i hi'
  obtain ⟨h1, h2⟩ := flat_get lo hi n i hi'
  have c := h.cells (g := g) rfl
  have e : ∀ j, ((⟨g, 0, none⟩ : Addr).add j) = ⟨g, j, none⟩ := fun j => by unfold Addr.add; split <;> simp_all
  have a := c _ _ h1
  have b := c _ _ h2
  rw [e] at a b
  exact ⟨a, b⟩

/-- What the loop knows at its head. -/
def OwnRel (lo hi : Nat → Int) (n : Nat) (w : World) (s : Value) (j : Value) (wr : World) : Prop :=
  ∃ k : Nat, k ≤ n ∧ j = .int .i64 (k : Nat) ∧ wr.ownsRow w.heap.size 29 2 s k (flat lo hi k) ∧ Below w.heap.size w wr

/-- One round more. -/
theorem own_next {lo hi : Nat → Int} {n k g cap : Nat} {w wr w1 : World} {s : Value} {o : Obj} (hk : k < n) (hown : wr.ownsRow w.heap.size 29 2 s k (flat lo hi k)) (hbl : Below w.heap.size w wr)
    (hown' : w1.ownsRow w.heap.size 29 2 (.slice (some ⟨g, 0, none⟩) (k + 1) cap) (k + 1) (flat lo hi k ++ [.int .i32 (lo k), .int .i32 (hi k)])) (hgrow : (wr.drew.alloc o).grownBy w1 s.ownBlock) :
    OwnRel lo hi n w (.slice (some ⟨g, 0, none⟩) (k + 1) cap) (.int .i64 ((k : Int) + 1)) w1 :=
  ⟨k + 1, by omega, rfl, by rw [flat_succ]; exact hown',
    (hbl.drew.alloc hbl.size o).grown hgrow (Nat.le_trans hbl.size (by simp)) (fun j hj => (hown.lt j hj).1)⟩

set_option maxHeartbeats 1000000 in
theorem own_walk (gl gh n cl ch : Nat) (lo hi : Nat → Int) (r : Int) (w : World) (hn : n ≤ 20) (hgl : gl < w.heap.size) (hgh : gh < w.heap.size)
    (hl : ∀ i, i < n → w.cell? ⟨gl, i, none⟩ = some (.int .i32 (lo i))) (hh : ∀ i, i < n → w.cell? ⟨gh, i, none⟩ = some (.int .i32 (hi i))) (ha : Asc lo hi n) :
    Calls Try.prog 4 #[.slice (some ⟨gl, 0, none⟩) n cl, .slice (some ⟨gh, 0, none⟩) n ch, .int .i32 r] w (Tells (hasR lo hi n r) w) := by
  obtain ⟨i0, hi0, hz0, hz1, hz2⟩ := info_parts Try.info29
  have h200 : ¬ (200 : Int) < (n : Int) := by omega
  have HL := hide hl
  have HH := hide hh
  have HA := hide ha
  clear hl hh ha
  go_enter Try.func4, Try.ntmps4
  go_wp2
  go_loopw [7, 21] (fun s j wr => OwnRel lo hi n w s j wr) (fun _ j _ => n - (intOf j).toNat)
  case atStart => exact ⟨0, Nat.zero_le _, rfl, World.ownsRow_nil _ _ _ _, Below.refl _ _⟩
  case round =>
    obtain ⟨k, hk, rfl, hown, hbl⟩ := hrel
    by_cases hlt : k < n
    · have hlt' : (k : Int) < (n : Int) := by omega
      have cl' : wr.cell? ⟨gl, k, none⟩ = some (.int .i32 (lo k)) := (hbl.cell (by exact hgl)).trans (HL.out k hlt)
      have ch' : wr.cell? ⟨gh, k, none⟩ = some (.int .i32 (hi k)) := (hbl.cell (by exact hgh)).trans (HH.out k hlt)
      go_wp2
      have hsz : w.heap.size ≤ wr.heap.size := hbl.size
      have b1 : k + 1 ≤ maxLen := by unfold maxLen; omega
      go_region_law ((refine step_append_lies _ rfl (.tmp 24) (.tmp 34) 28 rfl w.heap.size 29 i0 (.agg #[.int .i32 0, .int .i32 0]) 2 8 Try.underlying28 hi0 hz0 hz1 hz2 rfl (by decide) _ k (flat lo hi k) rfl (hown.alloc _) ⟨wr.heap.size, 0, none⟩ 1 1 [.int .i32 (lo k), .int .i32 (hi k)] rfl rfl (World.news_of_block (cs := #[.int .i32 (lo k), .int .i32 (hi k)]) (t := 29) (fr := (0, 0)) (heap_alloc_new _ _)) (by simp [Value.oneCell']) (by decide) b1 (by omega) (Nat.le_trans hsz (by simp)) _ rfl ?_; intro g cap w1 hown' hgrow hat hlt1))
      all_goals
        have R := own_next hlt hown hbl hown' hgrow
        clear hown' hgrow hat hlt1 hown hbl cl' ch'
        go_wp2
        go_roundw
        case rel => exact R
        case measure => simp [intOf]; omega
    · obtain rfl : k = n := by omega
      have hge : ¬ (k : Int) < (k : Int) := by omega
      have HB := hide hbl
      have HO := hide hown
      have hcase := hown.2
      clear hbl hown
      rcases hcase with ⟨rfl, rfl⟩ | ⟨g, cap, cur, rfl, hg, hcur, hc1, hc2, hc3, hc4⟩
      · have hz : Hid (false = hasR lo hi 0 r) := rfl
        go_wp2_with (go_at_call 5; refine (set_none _ _).mono ?_; rintro e w' ⟨rfl, hb5⟩)
        go_ret
        exact tells_mk hz.out rfl (HB.out.trans (hb5.mono HB.out.size))
      · have hgl' : g < wr.heap.size := (HO.out.lt g rfl).2
        have hpr := hide (pairs_of_own HO.out)
        clear hcur hc1 hc2 hc3 hc4
        go_wp2_with (go_at_call 5; refine (set_walk g k cap lo hi r _ (by omega) hgl' hpr.out HA.out).mono ?_; rintro e w' ⟨rfl, hb5⟩)
        go_ret
        exact tells_mk rfl rfl (HB.out.trans (hb5.mono HB.out.size))
end Go.Proofs.Ythjampbabfmmpaa
