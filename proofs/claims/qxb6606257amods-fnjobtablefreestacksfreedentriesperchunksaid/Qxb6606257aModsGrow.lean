import Derived.Test.Qxb6606257aModsPut
import Derived.Deep.RegionHeld3
import Derived.Deep.RegionLaw
import Derived.Deep.AppendLies
import Derived.StillTactics
import Derived.Laws.Pointers
namespace Go.Proofs.Qxb6606257aMods
open Go.RowKit

theorem Trym.info65 : (Trym.prog.info? 65).map (fun i => (i.zero, i.size, i.bytes)) = some (some (.agg #[.slice none 0 0, .int .i64 0, .int .u32 0]), 3, 40) := by kernel_rfl
def zeroJob : Value := .agg #[.int .i64 0, .int .i64 0, .int .i64 0, .int .u64 0, .int .u32 0, .int .u32 0, .int .u32 0, .int .u8 0]
theorem Trym.info68 : (Trym.prog.info? 68).map (fun i => (i.zero, i.size, i.bytes)) = some (some zeroJob, 8, 48) := by kernel_rfl

/-- A new chunk's jobs: all zero. -/
def jobs0 : Array Value := madeCells zeroJob.cells (4096 * 8)

theorem run_jobs (w : World) : (Instr.makeSlice 63 (.int .i64 4096) (.int .i64 4096)).run Trym.prog w = .ok (.slice (some ⟨w.heap.size, 0, none⟩) 4096 4096) (w.alloc (.cells jobs0 68)) := by
  obtain ⟨i0, hi, hz0, hz1, hz2⟩ := info_parts Trym.info68
  have := run_make (P := Trym.prog) w 63 68 i0 zeroJob Trym.underlying63 hi hz0 .i64 .i64 4096 4096 (by omega) (by omega) (by rw [hz2]; omega) (by omega)
  rw [hz1] at this
  exact this

/-- The chunks' cells, behind k growths. -/
def chunkCells (J : Nat → Nat) : Nat → List Value
  | 0 => []
  | k + 1 => chunkCells J k ++ [.slice (some ⟨J k, 0, none⟩) 4096 4096, .int .i64 0, .int .u32 0]

/-- THE TABLE WHILE IT GROWS. -/
structure Gro (j0 : Array Value) (w : World) (B bt k : Nat) (v : Value) (J : Nat → Nat) : Prop where
  t0 : w.cell? ⟨bt, 0, none⟩ = some v
  t1 : w.cell? ⟨bt, 1, none⟩ = some (.int .u32 0)
  t2 : w.cell? ⟨bt, 2, none⟩ = some (.int .i64 0)
  t3 : w.cell? ⟨bt, 3, none⟩ = some (.int .i64 0)
  tf : ∀ o, w.frozen? ⟨bt, o, none⟩ = false
  row : w.ownsRow (bt + 1) 65 3 v k (chunkCells J k)
  jb : ∀ j, j < k → w.heap[J j]? = some (.cells j0 68 (0, 0)) ∧ bt < J j
  inj : ∀ i j, i < k → j < k → J i = J j → i = j
  lo : B ≤ bt

theorem news_two (w : World) (o : Obj) (cs : Array Value) : ∀ j u, cs.toList[j]? = some u → ((w.alloc o).alloc (.cells cs 65)).drew.cell? ((⟨w.heap.size + 1, 0, none⟩ : Addr).add j) = some u :=
  World.news_of_block (t := 65) (fr := (0, 0)) (by
    show ((w.alloc o).alloc (.cells cs 65)).heap[w.heap.size + 1]? = _
    have := heap_alloc_new (w.alloc o) (.cells cs 65)
    rwa [World.size_alloc] at this)

theorem chunkCells_congr {J J' : Nat → Nat} : ∀ k, (∀ j, j < k → J j = J' j) → chunkCells J k = chunkCells J' k
  | 0, _ => rfl
  | k + 1, h => by
    unfold chunkCells
    rw [chunkCells_congr k (fun j hj => h j (by omega)), h k (by omega)]

theorem gro_step {j0 : Array Value} {w w1 : World} {B bt k gg cap : Nat} {v : Value} {J : Nat → Nat} {cs : Array Value} (h : Gro j0 w B bt k v J)
    (hown1 : w1.ownsRow (bt + 1) 65 3 (.slice (some ⟨gg, 0, none⟩) (k + 1) cap) (k + 1) (chunkCells J k ++ [.slice (some ⟨w.heap.size, 0, none⟩) 4096 4096, .int .i64 0, .int .u32 0]))
    (hgrow : ((w.alloc (.cells j0 68)).alloc (.cells cs 65)).drew.grownBy w1 v.ownBlock) :
    Below B w (w1.setCell ⟨bt, 0, none⟩ (.slice (some ⟨gg, 0, none⟩) (k + 1) cap)) ∧
    ∃ v', Gro j0 (w1.setCell ⟨bt, 0, none⟩ (.slice (some ⟨gg, 0, none⟩) (k + 1) cap)) B bt (k + 1) v' (fun j => if j = k then w.heap.size else J j) := by
  have lt : bt < w.heap.size := World.block_lt_of_cell? w _ h.t0
  have ag : v.ownBlock ≠ some bt := fun e => by have := h.row.lt bt e; omega
  have b2 : Below w.heap.size w ((w.alloc (.cells j0 68)).alloc (.cells cs 65)).drew := (((Below.refl w.heap.size w).alloc (Nat.le_refl _) _).alloc (by simp) _).drew
  have s2 : ((w.alloc (.cells j0 68)).alloc (.cells cs 65)).drew.heap.size = w.heap.size + 2 := by simp
  have cellb : ∀ o u, w.cell? ⟨bt, o, none⟩ = some u → w1.cell? ⟨bt, o, none⟩ = some u := fun o u hu =>
    (hgrow.cell_far ⟨bt, o, none⟩ (by rw [s2]; simp; omega) (Ne.symm ag)).trans ((b2.cell (p := ⟨bt, o, none⟩) lt).trans hu)
  have ltJ : ∀ j, j < k → J j < w.heap.size := fun j hj => (Array.getElem?_eq_some_iff.1 (h.jb j hj).1).1
  have neJ : ∀ j, j < k → some (J j) ≠ v.ownBlock := fun j hj e => by
    rcases h.row.2 with ⟨rfl, _⟩ | ⟨g, c, cur, rfl, _, hg, _⟩
    · cases e
    · cases e
      rw [(h.jb j hj).1] at hg
      cases hg
  refine ⟨?_, _, cell_same (cellb 0 v h.t0), (cell_other (.inr (by omega))).trans (cellb 1 _ h.t1), (cell_other (.inr (by omega))).trans (cellb 2 _ h.t2), (cell_other (.inr (by omega))).trans (cellb 3 _ h.t3), fun o => ?_, ?_, fun j hj => ?_, fun i j hi hj e => ?_, h.lo⟩
  · refine Below.setCell ?_ h.lo _
    exact ((b2.mono (by have := h.lo; omega)).grown hgrow (by rw [s2]; have := h.lo; omega) (fun g hg => by have := h.row.lt g hg; have := h.lo; omega))
  · rw [froz, hgrow.frozen_far ⟨bt, o, none⟩ (by rw [s2]; simp; omega) (Ne.symm ag), b2.frozen (p := ⟨bt, o, none⟩) lt]
    exact h.tf o
  · have e : chunkCells (fun j => if j = k then w.heap.size else J j) (k + 1) = chunkCells J k ++ [.slice (some ⟨w.heap.size, 0, none⟩) 4096 4096, .int .i64 0, .int .u32 0] := by
      show chunkCells _ k ++ _ = _
      rw [chunkCells_congr (J' := J) k (fun j hj => if_neg (by omega))]
      simp
    rw [e]
    exact ownsRow_setCell_below hown1 (by simp) _
  · by_cases e : j = k
    · subst e
      rw [if_pos rfl]
      refine ⟨?_, lt⟩
      rw [Below.heap_setCell _ _ _ _ (by simp; omega), hgrow.block _ (by rw [s2]; omega) (fun e => by have := h.row.lt _ e.symm; omega)]
      show ((w.alloc (.cells j0 68)).alloc (.cells cs 65)).heap[w.heap.size]? = _
      rw [Below.heap_alloc _ _ _ (by simp)]
      exact heap_alloc_new w _
    · rw [if_neg e]
      have hj' : j < k := by omega
      refine ⟨?_, (h.jb j hj').2⟩
      rw [Below.heap_setCell _ _ _ _ (by have := (h.jb j hj').2; simp; omega), hgrow.block _ (by rw [s2]; have := ltJ j hj'; omega) (neJ j hj'), b2.block _ (ltJ j hj')]
      exact (h.jb j hj').1
  · by_cases ei : i = k
    · by_cases ej : j = k
      · omega
      · simp only [ei, if_true, if_neg ej] at e
        have := ltJ j (by omega); omega
    · by_cases ej : j = k
      · simp only [ej, if_true, if_neg ei] at e
        have := ltJ i (by omega); omega
      · simp only [if_neg ei, if_neg ej] at e
        exact h.inj i j (by omega) (by omega) e

set_option maxRecDepth 100000 in
set_option maxHeartbeats 1000000 in
theorem growT {j0 : Array Value} {w : World} {B bt k : Nat} {v : Value} {J : Nat → Nat} (hmk : ∀ w : World, (Instr.makeSlice 63 (.int .i64 4096) (.int .i64 4096)).run Trym.prog w = .ok (.slice (some ⟨w.heap.size, 0, none⟩) 4096 4096) (w.alloc (.cells j0 68)))
    (h : Gro j0 w B bt k v J) (hk : k < 16) :
    Calls Trym.prog 32 #[.pointer (some ⟨bt, 0, none⟩)] w fun e w' => e = .returned (.tuple #[]) ∧ Below B w w' ∧ ∃ v', Gro j0 w' B bt (k + 1) v' (fun j => if j = k then w.heap.size else J j) := by
  obtain ⟨i0, hi0, hz0, hz1, hz2⟩ := info_parts Trym.info65
  have t0 := h.t0
  have tf := h.tf 0
  have lt : bt < w.heap.size := World.block_lt_of_cell? w _ t0
  have ag : v.ownBlock ≠ some bt := fun e => by have := h.row.lt bt e; omega
  have fa1 : ∀ o, (w.alloc o).frozen? ⟨bt, 0, none⟩ = false := fun o => (((Below.refl w.heap.size w).alloc (Nat.le_refl _) o).frozen (p := ⟨bt, 0, none⟩) lt).trans tf
  have fa2 : ∀ o o', ((w.alloc o).alloc o').frozen? ⟨bt, 0, none⟩ = false := fun o o' => ((((Below.refl w.heap.size w).alloc (Nat.le_refl _) o).alloc (by simp) o').frozen (p := ⟨bt, 0, none⟩) lt).trans tf
  have c2 : ∀ o o', ((w.alloc o).alloc o').drew.cell? ⟨bt, 0, none⟩ = some v := fun o o' => ((((Below.refl w.heap.size w).alloc (Nat.le_refl _) o).alloc (by simp) o').cell (p := ⟨bt, 0, none⟩) lt).trans t0
  go_enter Trym.func32, Trym.ntmps32
  go_wp2_with fail
  go_region_law ((refine step_append_lies _ (by rfl) _ _ _ (by rfl) (bt + 1) 65 i0 _ 3 40 Trym.underlying58 hi0 hz0 hz1 hz2 rfl (by omega) v k (chunkCells J k) (by rfl) (((h.row.alloc _).alloc _).drew) ⟨w.heap.size + 1, 0, none⟩ 1 1 [.slice (some ⟨w.heap.size, 0, none⟩) 4096 4096, .int .i64 0, .int .u32 0] (by rfl) (by rfl) (news_two _ _ _) (by simp [Value.oneCell']) (by omega) (by unfold maxLen; omega) (by omega) (by simp; omega) (w.heap.size + 2) (by simp) ?_; intro gg cap w1 hown1 hgrow hat hlt; have y1 := (hgrow.cell_far ⟨bt, 0, none⟩ (by simp; omega) (Ne.symm ag)).trans (c2 _ _); have y2 := (hgrow.frozen_far ⟨bt, 0, none⟩ (by simp; omega) (Ne.symm ag)).trans (fa2 _ _)))
  all_goals go_end0
  all_goals exact ⟨rfl, gro_step h hown1 hgrow⟩
end Go.Proofs.Qxb6606257aMods
