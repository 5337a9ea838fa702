import Derived.Test.Qxb6606257aModsGrow
namespace Go.Proofs.Qxb6606257aMods
open Go.RowKit

theorem newTable (w : World) : Calls Trym.prog 31 #[] w fun e w' => e = .returned (.pointer (some ⟨w.heap.size, 0, none⟩)) ∧ w.alloc (.cells #[.slice none 0 0, .int .u32 0, .int .i64 0, .int .i64 0] 60) = w' := by
  go_enter Trym.func31, Trym.ntmps31
  go_wp2
  go_ret
  exact ⟨rfl, rfl⟩

theorem gro_start (j0 : Array Value) (w : World) (J : Nat → Nat) : Gro j0 (w.alloc (.cells #[.slice none 0 0, .int .u32 0, .int .i64 0, .int .i64 0] 60)) w.heap.size w.heap.size 0 (.slice none 0 0) J :=
  ⟨by simp, by simp, by simp, by simp, fun o => by simp, World.ownsRow_nil _ _ _ _, fun j hj => absurd hj (Nat.not_lt_zero _), fun i j hi => absurd hi (Nat.not_lt_zero _), Nat.le_refl _⟩

theorem chunkCells_at (J : Nat → Nat) : ∀ k j, j < k → (chunkCells J k)[j * 3]? = some (.slice (some ⟨J j, 0, none⟩) 4096 4096) ∧ (chunkCells J k)[j * 3 + 1]? = some (.int .i64 0) ∧ (chunkCells J k)[j * 3 + 2]? = some (.int .u32 0)
  | 0, j, h => by omega
  | k + 1, j, h => by
    have hl : ∀ k, (chunkCells J k).length = k * 3 := fun k => by
      induction k with
      | zero => rfl
      | succ k ih => unfold chunkCells; rw [List.length_append, ih]; simp; omega
    unfold chunkCells
    by_cases e : j = k
    · subst e
      refine ⟨?_, ?_, ?_⟩
      · rw [List.getElem?_append_right (by rw [hl]; omega), hl]; simp
      · rw [List.getElem?_append_right (by rw [hl]; omega), hl]; simp
      · rw [List.getElem?_append_right (by rw [hl]; omega), hl]; simp
    · have ih := chunkCells_at J k j (by omega)
      refine ⟨?_, ?_, ?_⟩
      · rw [List.getElem?_append_left (by rw [hl]; omega)]; exact ih.1
      · rw [List.getElem?_append_left (by rw [hl]; omega)]; exact ih.2.1
      · rw [List.getElem?_append_left (by rw [hl]; omega)]; exact ih.2.2

/-- What the laws lay into entry e. -/
def init (e f : Nat) : Int := vals8 (e + 1) (e + 1000003) e (e + 11) (e % 5) 3 (bits .xor .u32 (e : Int) 1) (e % 3) f

/-- The state of a table whose first k entries have been laid. -/
def St.part (k : Nat) : St := { E := fun e f => if e < k then init e f else 0, first := fun _ => 0, freed := fun _ => 0, next := 0, held := 0, room := 0 }

theorem gro_tab {j0 : Array Value} {w : World} {B bt nch : Nat} {v : Value} {J : Nat → Nat} (hj : ∀ i, i < 4096 → ∀ f, f < 8 → j0[i * 8 + f]? = some (.int (kd f) 0)) (h : Gro j0 w B bt nch v J) (h1 : 1 ≤ nch) (h2 : nch ≤ 16) :
    ∃ bc cap, Tab w B bt bc cap nch J (St.part 0) := by
  obtain ⟨bc, cap, rfl, hb, hlt⟩ := h.row.form h1
  have hrow : ∃ cur, w.heap[bc]? = some (.cells cur 65 (0, 0)) := by
    rcases h.row.2 with ⟨e, _⟩ | ⟨g, c, cur, e, _, hg, _⟩
    · cases e
    · cases e; exact ⟨cur, hg⟩
  obtain ⟨cur, hcur⟩ := hrow
  have hne : ∀ k, k < nch → J k ≠ bc := fun k hk e => by
    have := (h.jb k hk).1
    rw [e, hcur] at this
    cases this
  refine ⟨bc, cap, h.t0, h.t1, h.t2, h.t3, h.tf, fun k hk => ?_, fun k hk => ?_, fun k hk => ?_, fun o => h.row.frozenAt o, fun k hk i hi f hf => ?_, fun k hk o => ?_, by omega, fun k hk => ⟨by have := (h.jb k hk).2; omega, hne k hk⟩, h.inj, ⟨h.lo, by have := h.lo; omega, fun k hk => by have := (h.jb k hk).2; have := h.lo; omega⟩, h2⟩
  · rw [h.row.cellAt _ (by omega)]; exact (chunkCells_at J nch k hk).1
  · rw [h.row.cellAt _ (by omega)]; exact (chunkCells_at J nch k hk).2.1
  · rw [h.row.cellAt _ (by omega)]; exact (chunkCells_at J nch k hk).2.2
  · rw [cell_of_row w (J k) (i * 8 + f) j0 68 (0, 0) (h.jb k hk).1]
    exact hj i hi f hf
  · exact frozen_of_row w (J k) o j0 68 (h.jb k hk).1

theorem jobs0_at : ∀ i, i < 4096 → ∀ f, f < 8 → jobs0[i * 8 + f]? = some (.int (kd f) 0) := by
  intro i hi f hf
  have hlt : i * 8 + f < 4096 * 8 := by omega
  have hm : (i * 8 + f) % 8 = f := by omega
  have hz : zeroJob.cells.size = 8 := rfl
  unfold jobs0 madeCells
  rw [Array.getElem?_map, Array.getElem?_range, if_pos hlt, Option.map_some, hz, hm]
  match f, hf with
  | 0, _ => rfl
  | 1, _ => rfl
  | 2, _ => rfl
  | 3, _ => rfl
  | 4, _ => rfl
  | 5, _ => rfl
  | 6, _ => rfl
  | 7, _ => rfl

theorem Tab.same {w : World} {B bt bc cap nch : Nat} {J : Nat → Nat} {s s' : St} (h : Tab w B bt bc cap nch J s) (e : s = s') : Tab w B bt bc cap nch J s' := e ▸ h

theorem fill_step (k : Nat) : ({ St.part k with E := fun e f => if e = k then vals8 (k + 1) (k + 1000003) k (k + 11) (k % 5) 3 (bits .xor .u32 (k : Int) 1) (k % 3) f else (St.part k).E e f } : St) = St.part (k + 1) := by
  unfold St.part
  simp only [St.mk.injEq, and_true]
  funext e f
  by_cases e1 : e = k
  · subst e1
    rw [if_pos rfl, if_pos (by omega)]
    rfl
  · rw [if_neg e1]
    by_cases e2 : e < k
    · rw [if_pos e2, if_pos (by omega)]
    · rw [if_neg e2, if_neg (by omega)]

/-- The full table that the laws build. -/
def St.full (nch : Nat) (room : Int) : St := { E := fun e f => if e < nch * 4096 then init e f else 0, first := fun _ => 0, freed := fun _ => 0, next := nch * 4096, held := nch * 4096, room := room }

set_option maxRecDepth 100000 in
set_option maxHeartbeats 1000000 in
theorem freeTableA {j0 : Array Value} (hmk : ∀ w : World, (Instr.makeSlice 63 (.int .i64 4096) (.int .i64 4096)).run Trym.prog w = .ok (.slice (some ⟨w.heap.size, 0, none⟩) 4096 4096) (w.alloc (.cells j0 68)))
    (hj : ∀ i, i < 4096 → ∀ f, f < 8 → j0[i * 8 + f]? = some (.int (kd f) 0)) (nch : Nat) (room : Int) (h1 : 1 ≤ nch) (h2 : nch ≤ 16) (w : World) :
    Calls Trym.prog 18 #[.int .i64 nch, .int .i64 room] w fun e w' => ∃ bt bc cap J, e = .returned (.pointer (some ⟨bt, 0, none⟩)) ∧ Below w.heap.size w w' ∧ Tab w' w.heap.size bt bc cap nch J (St.full nch room) := by
  go_enter Trym.func18, Trym.ntmps18
  go_wp2_with fail
  refine (newTable _).mono ?_
  rintro e w1 ⟨rfl, rfl⟩
  have HM : Hid (∀ w : World, (Instr.makeSlice 63 (.int .i64 4096) (.int .i64 4096)).run Trym.prog w = .ok (.slice (some ⟨w.heap.size, 0, none⟩) 4096 4096) (w.alloc (.cells j0 68))) := hmk
  clear hmk
  go_wp2_with fail
  go_loopw [6] (fun i wr => ∃ (k : Nat) (v : Value) (J : Nat → Nat), k ≤ nch ∧ i = .int .i64 k ∧ Gro j0 wr w.heap.size w.heap.size k v J ∧ Below w.heap.size w wr) (fun i _ => nch - (intOf i).toNat)
  case atStart => exact ⟨0, _, id, Nat.zero_le _, rfl, gro_start j0 w id, (Below.refl _ _).alloc (Nat.le_refl _) _⟩
  case round =>
    obtain ⟨k, v, J, hk, rfl, hg, hb⟩ := hrel
    by_cases hlt : k < nch
    · go_wp2_with (go_at_call 32; refine (growT HM.out hg (by omega)).mono ?_; rintro e w2 ⟨rfl, hb2, v2, hg2⟩)
      go_roundw
      case rel => exact ⟨k + 1, v2, _, by omega, by go_num, hg2, hb.trans hb2⟩
      case measure => simp [intOf]; omega
    · obtain rfl : nch = k := by omega
      obtain ⟨bc, cap, hT⟩ := gro_tab hj hg h1 h2
      clear hg hj HM
      go_wp2_with fail
      go_loopw [8] (fun i wx => ∃ k : Nat, k ≤ nch * 4096 ∧ i = .int .i64 k ∧ Tab wx w.heap.size w.heap.size bc cap nch J (St.part k) ∧ Below w.heap.size w wx) (fun i _ => nch * 4096 - (intOf i).toNat)
      case atStart => exact ⟨0, Nat.zero_le _, rfl, hT, hb⟩
      case round =>
        obtain ⟨k, hk, rfl, hT, hb⟩ := hrel
        by_cases hlt : k < nch * 4096
        · go_wp2_with fail
          refine (setJob_any hT k hlt _ _ _ _ _ _ _ _).mono ?_
          rintro e w2 ⟨rfl, hb2, hT2⟩
          go_wp2_with fail
          go_roundw
          case rel => exact ⟨k + 1, by omega, by go_num, hT2.same (fill_step k), hb.trans hb2⟩
          case measure => simp [intOf]; omega
        · obtain rfl : nch * 4096 = k := by omega
          go_wp2_with fail
          refine (setCounts hT _ _ _).mono ?_
          rintro e w2 ⟨rfl, hb2, hT2⟩
          go_wp2_with fail
          go_ret
          exact ⟨_, bc, cap, J, rfl, hb.trans hb2, hT2⟩

theorem freeTable (nch : Nat) (room : Int) (h1 : 1 ≤ nch) (h2 : nch ≤ 16) (w : World) :
    Calls Trym.prog 18 #[.int .i64 nch, .int .i64 room] w fun e w' => ∃ bt bc cap J, e = .returned (.pointer (some ⟨bt, 0, none⟩)) ∧ Below w.heap.size w w' ∧ Tab w' w.heap.size bt bc cap nch J (St.full nch room) :=
  freeTableA run_jobs jobs0_at nch room h1 h2 w
end Go.Proofs.Qxb6606257aMods
