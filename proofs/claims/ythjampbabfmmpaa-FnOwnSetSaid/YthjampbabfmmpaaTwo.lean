/- Two lists of the call's own, and one number more on each. -/
import Derived.Test.YthjampbabfmmpaaOwn
import Derived.BigQuiet
import Derived.Deep.RegionHeld3
namespace Go.Proofs.Ythjampbabfmmpaa
open Go.RowKit Go.Sort

theorem Try.info21 : (Try.prog.info? 21).map (fun i => (i.zero, i.size, i.bytes)) = some (some (.int .i32 0), 1, 4) := by kernel_rfl

/-- The first k numbers as cells. -/
def ends (lo : Nat → Int) (k : Nat) : List Value := (List.range k).map fun i => .int .i32 (lo i)

theorem ends_succ (lo : Nat → Int) (k : Nat) : ends lo (k + 1) = ends lo k ++ [.int .i32 (lo k)] := by
  unfold ends; rw [List.range_succ]; simp

theorem ends_get (lo : Nat → Int) (k i : Nat) (h : i < k) : (ends lo k)[i]? = some (.int .i32 (lo i)) := by
  unfold ends; simp [h]

theorem below_drawn {B : Nat} {w w' : World} (h : Below B w w') (n : Nat) : Below B w (w'.drewN n) := ⟨h.os, h.tape, h.output, h.size, h.block⟩

theorem xs_alloc {bx : Nat} {a c : Int} {w' : World} (h : w'.cell? ⟨bx, 0, none⟩ = some (.int .i32 a) ∧ w'.cell? ⟨bx, 1, none⟩ = some (.int .i32 c)) (o : Obj) :
    (w'.alloc o).cell? ⟨bx, 0, none⟩ = some (.int .i32 a) ∧ (w'.alloc o).cell? ⟨bx, 1, none⟩ = some (.int .i32 c) := by
  have hb := World.block_lt_of_cell? _ _ h.1
  rw [World.cell?_alloc_past _ _ _ hb, World.cell?_alloc_past _ _ _ hb]; exact h

/-- All blocks of W but g are as they were. -/
def Far (W w1 : World) (g : Nat) : Prop := ∀ q, q < W.heap.size → q ≠ g → w1.heap[q]? = W.heap[q]?

theorem xs_far {bx g : Nat} {a c : Int} {w' w1 : World} (h : w'.cell? ⟨bx, 0, none⟩ = some (.int .i32 a) ∧ w'.cell? ⟨bx, 1, none⟩ = some (.int .i32 c)) (hf : Far w' w1 g) (hne : bx ≠ g) :
    w1.cell? ⟨bx, 0, none⟩ = some (.int .i32 a) ∧ w1.cell? ⟨bx, 1, none⟩ = some (.int .i32 c) := by
  have hb := World.block_lt_of_cell? _ _ h.1
  exact ⟨(World.cell?_of_block (w := w') (hf bx hb hne)).trans h.1, (World.cell?_of_block (w := w') (hf bx hb hne)).trans h.2⟩

/-- Two lists of the call's own, in blocks of their own: of k numbers the first, of m the second. -/
structure Two (w W : World) (g5 c5 k g6 c6 m : Nat) (lo hi : Nat → Int) : Prop where
  low : W.ownsRow w.heap.size 21 1 (.slice (some ⟨g5, 0, none⟩) k c5) k (ends lo k)
  high : W.ownsRow w.heap.size 21 1 (.slice (some ⟨g6, 0, none⟩) m c6) m (ends hi m)
  ne : g5 ≠ g6
  below : Below w.heap.size w W

theorem Two.alloc {w W : World} {g5 c5 k g6 c6 m : Nat} {lo hi : Nat → Int} (h : Two w W g5 c5 k g6 c6 m lo hi) (o : Obj) : Two w (W.alloc o) g5 c5 k g6 c6 m lo hi :=
  ⟨h.low.alloc o, h.high.alloc o, h.ne, h.below.alloc h.below.size o⟩

theorem Two.drew {w W : World} {g5 c5 k g6 c6 m : Nat} {lo hi : Nat → Int} (h : Two w W g5 c5 k g6 c6 m lo hi) : Two w W.drew g5 c5 k g6 c6 m lo hi :=
  ⟨h.low, h.high, h.ne, h.below.drew⟩

theorem two_drawn {w W : World} {g5 c5 k g6 c6 m : Nat} {lo hi : Nat → Int} (h : Two w W g5 c5 k g6 c6 m lo hi) (n : Nat) : Two w (W.drewN n) g5 c5 k g6 c6 m lo hi :=
  ⟨h.low, h.high, h.ne, below_drawn h.below n⟩

theorem far_of_grown {W w1 : World} {g : Nat} (h : W.grownBy w1 (some g)) : Far W w1 g := fun q hq hne => h.block q hq (fun e => hne (Option.some.inj e))

/-- Of two new blocks each is there still behind a write to an older one. -/
theorem far_new1 {X w1 : World} {A B : Obj} {g : Nat} (hf : Far ((X.alloc A).alloc B).drew w1 g) (h : g < X.heap.size) : w1.heap[X.heap.size + 1]? = some B :=
  (hf _ (by show X.heap.size + 1 < ((X.alloc A).alloc B).heap.size; simp) (by omega)).trans (heap_alloc2_new X A B)
theorem far_new0 {X w1 : World} {A B : Obj} {g : Nat} (hf : Far ((X.alloc A).alloc B).drew w1 g) (h : g < X.heap.size) : w1.heap[X.heap.size]? = some A :=
  (hf _ (by show X.heap.size < ((X.alloc A).alloc B).heap.size; simp; omega) (by omega)).trans (heap_alloc2_old X A B)

/-- One number is appended to the first list. -/
theorem step_low {ops : Array Oper} {o : Oper} {a : Act} {w W : World} {K : Act → World → Prop} {Q : Exit → Act → World → Prop} {E : Prop} {lo hi : Nat → Int} {g5 c5 k g6 c6 m p c : Nat}
    (hgd : o.guard = none) (s x : Operand) (ho : o.op = .call { callee := .builtin .append, args := #[s, x], argTypes := #[23, 23] })
    (hs : a.eval s = .slice (some ⟨g5, 0, none⟩) k c5) (hx : a.eval x = .slice (some ⟨p, 0, none⟩) 1 c) (hp : W.heap[p]? = some (.cells #[.int .i32 (lo k)] 21 (0, 0))) (hk : k ≤ 20) (T : Two w W g5 c5 k g6 c6 m lo hi)
    (hK : ∀ g cap w1, Two w w1 g cap (k + 1) g6 c6 m lo hi → Far W w1 g5 → K (a.put o.dst (.slice (some ⟨g, 0, none⟩) (k + 1) cap)) w1) :
    if Region.wanted o (yielded ops a.tmps) = true then Oper.wp Try.prog o a W K Q else E := by
  obtain ⟨i0, hi0, hz0, hz1, hz2⟩ := info_parts Try.info21
  refine step_append_lies W hgd s x 23 ho w.heap.size 21 i0 (.int .i32 0) 1 4 Try.underlying23 hi0 hz0 hz1 hz2 rfl (by decide) _ k (ends lo k) hs T.low ⟨p, 0, none⟩ 1 c [.int .i32 (lo k)] hx rfl
    (World.news_of_block (cs := #[.int .i32 (lo k)]) (t := 21) (fr := (0, 0)) hp) (by simp [Value.oneCell']) (by decide) (by unfold maxLen; omega) (by omega) T.below.size _ rfl ?_
  intro g cap w1 hown hgrow hat hlt
  have h6 := (T.high.lt g6 rfl).2
  refine hK g cap w1 ⟨by rw [ends_succ]; exact hown, T.high.kept hgrow (.inr (by simp [Value.ownBlock]; exact fun e => T.ne e.symm)), ?_, T.below.grown hgrow T.below.size (fun j hj => (T.low.lt j hj).1)⟩ (far_of_grown hgrow)
  rcases hat with h | h
  · have : g5 = g := by simpa [Value.ownBlock] using h
    rw [← this]; exact T.ne
  · omega

/-- One number is appended to the second list. -/
theorem step_high {ops : Array Oper} {o : Oper} {a : Act} {w W : World} {K : Act → World → Prop} {Q : Exit → Act → World → Prop} {E : Prop} {lo hi : Nat → Int} {g5 c5 k g6 c6 m p c : Nat}
    (hgd : o.guard = none) (s x : Operand) (ho : o.op = .call { callee := .builtin .append, args := #[s, x], argTypes := #[23, 23] })
    (hs : a.eval s = .slice (some ⟨g6, 0, none⟩) m c6) (hx : a.eval x = .slice (some ⟨p, 0, none⟩) 1 c) (hp : W.heap[p]? = some (.cells #[.int .i32 (hi m)] 21 (0, 0))) (hk : m ≤ 20) (T : Two w W g5 c5 k g6 c6 m lo hi)
    (hK : ∀ g cap w1, Two w w1 g5 c5 k g cap (m + 1) lo hi → Far W w1 g6 → K (a.put o.dst (.slice (some ⟨g, 0, none⟩) (m + 1) cap)) w1) :
    if Region.wanted o (yielded ops a.tmps) = true then Oper.wp Try.prog o a W K Q else E := by
  obtain ⟨i0, hi0, hz0, hz1, hz2⟩ := info_parts Try.info21
  refine step_append_lies W hgd s x 23 ho w.heap.size 21 i0 (.int .i32 0) 1 4 Try.underlying23 hi0 hz0 hz1 hz2 rfl (by decide) _ m (ends hi m) hs T.high ⟨p, 0, none⟩ 1 c [.int .i32 (hi m)] hx rfl
    (World.news_of_block (cs := #[.int .i32 (hi m)]) (t := 21) (fr := (0, 0)) hp) (by simp [Value.oneCell']) (by decide) (by unfold maxLen; omega) (by omega) T.below.size _ rfl ?_
  intro g cap w1 hown hgrow hat hlt
  have h5 := (T.low.lt g5 rfl).2
  refine hK g cap w1 ⟨T.low.kept hgrow (.inr (by simp [Value.ownBlock]; exact T.ne)), by rw [ends_succ]; exact hown, ?_, T.below.grown hgrow T.below.size (fun j hj => (T.high.lt j hj).1)⟩ (far_of_grown hgrow)
  rcases hat with h | h
  · have : g6 = g := by simpa [Value.ownBlock] using h
    rw [← this]; exact T.ne
  · omega

/-- What the loop knows at its head. -/
def LawRel (lo hi : Nat → Int) (n : Nat) (r : Int) (w : World) (s5 s6 s7 j : Value) (wr : World) : Prop :=
  ∃ k g5 c5 g6 c6 : Nat, k ≤ n ∧ j = .int .i64 (k : Nat) ∧ s7 = .bool (hasR lo hi k r) ∧ s5 = .slice (some ⟨g5, 0, none⟩) k c5 ∧ s6 = .slice (some ⟨g6, 0, none⟩) k c6 ∧
    Two w wr g5 c5 k g6 c6 k lo hi ∧ Asc lo hi k

/-- The two empty lists with which the law begins. -/
theorem law_start (lo hi : Nat → Int) (n : Nat) (r : Int) (w : World) :
    LawRel lo hi n r w (.slice (some ⟨w.heap.size, 0, none⟩) 0 0) (.slice (some ⟨w.heap.size + 1, 0, none⟩) 0 0) (.bool false) (.int .i64 0) ((w.alloc (.cells #[] 21)).alloc (.cells #[] 21)) := by
  refine ⟨0, w.heap.size, 0, w.heap.size + 1, 0, Nat.zero_le _, rfl, rfl, rfl, rfl, ⟨?_, ?_, by omega, ((Below.refl _ _).alloc (Nat.le_refl _) _).alloc (by simp) _⟩, ⟨fun i h => absurd h (Nat.not_lt_zero _), fun i h => absurd h (Nat.not_lt_zero _)⟩⟩
  · exact (World.ownsRow_made w #[] 0 (Nat.le_refl _) (by unfold maxLen; omega) rfl).alloc _
  · have := World.ownsRow_made (base := w.heap.size) (e := 21) (size := 1) (w.alloc (.cells #[] 21)) #[] 0 (by simp) (by unfold maxLen; omega) rfl
    simpa [ends] using this

theorem hasR_succ (lo hi : Nat → Int) (k : Nat) (r : Int) : hasR lo hi (k + 1) r = (hasR lo hi k r || inR (lo k) (hi k) r) := by
  unfold hasR; rw [List.range_succ]; simp

/-- One range more, behind the others. -/
theorem asc_succ {lo hi : Nat → Int} {k : Nat} (h : Asc lo hi k) (h1 : ¬ hi k < lo k) (h2 : ∀ m, k = m + 1 → ¬ lo k ≤ hi m) : Asc lo hi (k + 1) :=
  ⟨fun i hi' => by
    by_cases e : i = k
    · subst e; omega
    · exact h.1 i (by omega), fun i hi' => by
    by_cases e : i + 1 = k
    · have := h2 i e.symm; rw [e]; omega
    · exact h.2 i (by omega)⟩

/-- At the round's end. -/
theorem law_next {lo hi : Nat → Int} {n k g5 c5 g6 c6 : Nat} {r : Int} {w wr : World} {j s7 : Value} (hk : k < n) (T : Two w wr g5 c5 (k + 1) g6 c6 (k + 1) lo hi) (hA : Asc lo hi (k + 1)) (hj : j = .int .i64 ((k + 1 : Nat) : Int))
    (h7 : s7 = .bool (hasR lo hi k r || inR (lo k) (hi k) r)) : LawRel lo hi n r w (.slice (some ⟨g5, 0, none⟩) (k + 1) c5) (.slice (some ⟨g6, 0, none⟩) (k + 1) c6) s7 j wr :=
  ⟨k + 1, g5, c5, g6, c6, by omega, hj, by rw [hasR_succ]; exact h7, rfl, rfl, T, hA⟩

theorem end_yes {lo hi : Nat → Int} {k : Nat} {r : Int} (h : hasR lo hi k r = true) : Value.bool true = .bool (hasR lo hi k r || inR (lo k) (hi k) r) := by rw [h]; rfl
theorem end_mid {lo hi : Nat → Int} {k : Nat} {r : Int} (h : ¬ hasR lo hi k r = true) (h1 : lo k ≤ r) : Value.bool (decide (r ≤ hi k)) = .bool (hasR lo hi k r || inR (lo k) (hi k) r) := by
  have h' : hasR lo hi k r = false := by simpa using h
  rw [h']; simp [inR, h1]
theorem end_no {lo hi : Nat → Int} {k : Nat} {r : Int} (h : ¬ hasR lo hi k r = true) (h1 : ¬ lo k ≤ r) : Value.bool false = .bool (hasR lo hi k r || inR (lo k) (hi k) r) := by
  have h' : hasR lo hi k r = false := by simpa using h
  rw [h']; simp [inR, h1]

/-- The two lists of one number each with which the law asks once more. -/
theorem one_walk (w : World) :
    Calls Try.prog 4 #[.slice (some ⟨w.heap.size, 0, none⟩) 1 1, .slice (some ⟨w.heap.size + 1, 0, none⟩) 1 1, .int .i32 4] ((w.alloc (.cells #[.int .i32 3] 21)).alloc (.cells #[.int .i32 5] 21))
      (Tells true ((w.alloc (.cells #[.int .i32 3] 21)).alloc (.cells #[.int .i32 5] 21))) := by
  have h3 : ((w.alloc (.cells #[.int .i32 3] 21)).alloc (.cells #[.int .i32 5] 21)).cell? ⟨w.heap.size, 0, none⟩ = some (.int .i32 3) := by
    rw [World.cell?_alloc_past _ _ _ (by simp), World.cell?_alloc_at _ _ _ _ rfl]; rfl
  have h5 : ((w.alloc (.cells #[.int .i32 3] 21)).alloc (.cells #[.int .i32 5] 21)).cell? ⟨w.heap.size + 1, 0, none⟩ = some (.int .i32 5) := by
    rw [World.cell?_alloc_at _ _ _ _ (by simp)]; rfl
  have := own_walk w.heap.size (w.heap.size + 1) 1 1 1 (fun _ => 3) (fun _ => 5) 4 ((w.alloc (.cells #[.int .i32 3] 21)).alloc (.cells #[.int .i32 5] 21)) (by omega) (by simp; omega) (by simp)
    (fun i hi' => by obtain rfl : i = 0 := by omega
                     exact h3) (fun i hi' => by obtain rfl : i = 0 := by omega
                                                exact h5) ⟨fun _ _ => (by decide : (3 : Int) ≤ 5), fun i h => by omega⟩
  exact this

/-- What a call needs that is handed the two lists. -/
theorem Two.cells {w W : World} {g5 c5 k g6 c6 m : Nat} {lo hi : Nat → Int} (h : Two w W g5 c5 k g6 c6 m lo hi) :
    (∀ i, i < k → W.cell? ⟨g5, i, none⟩ = some (.int .i32 (lo i))) ∧ (∀ i, i < m → W.cell? ⟨g6, i, none⟩ = some (.int .i32 (hi i))) := by
  have e : ∀ g j, ((⟨g, 0, none⟩ : Addr).add j) = ⟨g, j, none⟩ := fun g j => by unfold Addr.add; split <;> simp_all
  refine ⟨fun i hi' => ?_, fun i hi' => ?_⟩
  · have := h.low.cells (g := g5) rfl i _ (ends_get lo k i hi'); rw [e] at this; exact this
  · have := h.high.cells (g := g6) rfl i _ (ends_get hi m i hi'); rw [e] at this; exact this
end Go.Proofs.Ythjampbabfmmpaa
