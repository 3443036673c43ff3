/- Proved here: 'FnOwnSet' returns true for every list of pairs of int32 and every int32, and leaves its argument as it was. Conditions: none beside those that the given row itself bears. -/
import Derived.Test.YthjampbabfmmpaaRows
import Derived.Test.YthjampbabfmmpaaEdge
import Derived.ProofKit
import Derived.OpenShut
import Derived.Deep.Slices
namespace Go.Proofs.Ythjampbabfmmpaa
open Go.ChangeShapes Go.WideShapes Go.ChangeAt Go.RowKit

theorem Try.own : ownKnob Try.prog.godebug = none := by kernel_rfl
theorem Try.laidOut : laidOutB Try.prog = true := by kernel_rfl
theorem Try.cells21 : Try.prog.cellsOf 21 = 1 := by kernel_rfl
theorem Try.cells24 : Try.prog.cellsOf 24 = 2 := by kernel_rfl

/-- What the walk is told of a list of pairs that came in. -/
theorem open_pairs {H : Type} {enc : TypeId × Value → H} {W : World} {base fuel len cap : Nat} {a : Option Addr} {x : DataW H × List MemPlace}
    (h : DataW.trod enc Try.prog W base (fun _ => true) true fuel 22 [.slice a len cap] = some x) :
    len = 0 ∨ ∃ (ad : Addr) (lo hi : Nat → Int), a = some ad ∧ ∀ i, i < len → W.cell? (ad.add (i * 2)) = some (.int .i32 (lo i)) ∧ W.cell? (ad.add (i * 2 + 1)) = some (.int .i32 (hi i)) := by
  rcases Deep.open_slice Try.underlying22 h with ⟨hcs, _⟩ | ⟨ad, len', cap', m, n, D, Pl, hcs, _, hl, _, hm, _, hx⟩
  · simp at hcs
    exact .inl hcs.2.1
  · simp at hcs
    obtain ⟨rfl, rfl, rfl⟩ := hcs
    right
    have each : ∀ i, i < len → ∃ q : Int × Int, W.cell? (ad.add (i * 2)) = some (.int .i32 q.1) ∧ W.cell? (ad.add (i * 2 + 1)) = some (.int .i32 q.2) := by
      intro i hi
      obtain ⟨cs', h1, h2⟩ := hx i (by simp at hm; omega)
      rw [Try.cells24] at h1
      obtain ⟨_, hlen, hcell⟩ := World.cells?_some h1
      obtain ⟨xs, m', _, _, _, hxl, hel⟩ := DataW.trod_array Try.underlying24 h2
      match cs', hlen with
      | [v0, v1], _ =>
        have g0 := hel 0 (by decide)
        have g1 := hel 1 (by decide)
        rw [Try.cells21] at g0 g1
        match xs, hxl with
        | [y0, y1], _ =>
          obtain ⟨p, e0, _, _⟩ := DataW.trod_int Try.underlying21 g0
          obtain ⟨q, e1, _, _⟩ := DataW.trod_int Try.underlying21 g1
          simp at e0 e1
          subst e0 e1
          have c0 := hcell 0 (by omega)
          have c1 := hcell 1 (by omega)
          rw [Deep.add_add] at c0 c1
          exact ⟨(p, q), by simpa using c0, by simpa using c1⟩
    obtain ⟨q, hq⟩ := Deep.choose_lt each
    exact ⟨ad, fun i => (q i).1, fun i => (q i).2, rfl, hq⟩

set_option maxRecDepth 100000 in
theorem fnOwnSet_lifted (os : Os) (started : os.Started) (H : Type) (enc : TypeId × Value → H) :
    ReturnsInHanded {} Try.checked os 3 .any (Rows.fnOwnSetSpec.pre6 enc Try.prog Try.f3 Rows.fnOwnSetRow.domain false) (Rows.fnOwnSetSpec.post enc Try.prog Try.f3 false true false false) := by
  refine returnsInHanded_of_change (C := Try.checked) Try.own started (by kernel_rfl) Try.func3
    (ChangeSpec.witness6 (enc := enc) (C := Try.checked) false ⟨#[], #[.slice none 0 0, .int .i32 0], []⟩ 8 (by kernel_rfl) (by kernel_rfl) (by kernel_rfl) (by kernel_rfl)) ?_
  intro W base args ds gs before hval0 hW _ _
  have hval : ∀ (j : Nat) t v, Try.f3.params[j]? = some t → args[j]? = some v → Value.okWide Try.prog W .any base t v := hval0
  have hW' := hW
  obtain ⟨p, q, hA0, hV, rfl, _, _⟩ := hW
  have hA : DataW.TrodAll enc Try.prog W 0 (fun _ => true) true Try.f3.params.toList args.toList ds p := hA0
  rw [Try.params3] at hA hval
  obtain ⟨v0, v1, d0, d1, p0, p1, rfl, rfl, rfl, h0, h1⟩ := trodAll_two hA
  obtain ⟨rfl, rfl⟩ := trodVars_none hV
  obtain ⟨r, rfl, rfl, rfl, wr⟩ := open_int Try.underlying21 (hval 1 21 v1 rfl rfl) h1
  obtain ⟨a0, len, cap, rfl⟩ := okWide_slice Try.underlying22 (hval 0 22 v0 rfl rfl)
  have h0k := h0
  have lt0 : ∀ x ∈ p0, x.block < W.heap.size := by obtain ⟨m, hm⟩ := h0k; exact DataW.trod_lt m _ _ _ hm
  obtain ⟨fuel, hf⟩ := h0
  have hview := open_pairs (by simpa [Value.cells] using hf)
  clear hA0 hval0
  have walk : Calls Try.prog 3 #[.slice a0 len cap, .int .i32 r] W (Tells true W) := by
    by_cases hmany : 20 < len
    · exact law_many a0 len cap r W hmany
    · by_cases hz : len = 0
      · subst hz; exact law_empty a0 cap r W
      · rcases hview with h | ⟨ad, lo, hi, rfl, hc⟩
        · exact absurd h hz
        · obtain ⟨b, off, spot⟩ := ad
          have hc0 := (hc 0 (by omega)).1
          have hspot : spot = none := by simpa [Addr.add] using World.cell?_spot hc0
          subst hspot
          have hb : b < W.heap.size := by
            have := World.block_lt_of_cell? W _ hc0
            simpa [Addr.add] using this
          exact law_walk b off len cap lo hi r W (by omega) hb (fun i hi' => by rw [← add_plain]; exact (hc i hi').1) (fun i hi' => by rw [Nat.add_assoc, ← add_plain]; exact (hc i hi').2)
  refine walk.mono fun e W' ⟨he, bel⟩ => ?_
  subst he
  exact ⟨_, rfl, _, _, _, [], _, [], hW', trodAll_mk1 (shut_bool Try.underlying4 _), trodAll_mk2 (Below.trod Try.laidOut (by kernel_rfl) (of_decide_eq_true (by kernel_rfl)) h0k bel lt0) (shut_int Try.underlying21 wr), rfl, bel.frame _, fun h => by cases h⟩

theorem fnOwnSet_holds : Rows.FnOwnSetSaid :=
  OpenClaim.holds_of_wide 3 Try.f3 rfl rfl rfl rfl rfl rfl rfl ⟨rfl, rfl, rfl, rfl, rfl⟩ rfl rfl rfl rfl rfl (by kernel_rfl) Try.func3 (by kernel_rfl)
    (of_decide_eq_true (by kernel_rfl)) (by unfold Func.isWrapper; first | (rw [if_pos (by decide +kernel)]; kernel_rfl) | (rw [if_neg (by decide +kernel)]; exact ⟨rfl, rfl⟩))
    (fun os started H enc _ => fnOwnSet_lifted os started H enc)
#print axioms fnOwnSet_holds
end Go.Proofs.Ythjampbabfmmpaa
