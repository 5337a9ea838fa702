import Derived.Test.Qxb6606257aModsPre
namespace Go.Proofs.Qxb6606257aMods
open Go.RowKit

theorem Trym.info32 : (Trym.prog.info? 32).map (fun i => (i.zero, i.size, i.bytes)) = some (some (.int .u32 0), 1, 4) := by kernel_rfl

/-- What the clone answers: a slice that reads the same. -/
def CloneSays (len : Nat) (N : Nat → Nat) (e : Ending) (w' : World) : Prop := ∃ a c, e = .returned (.slice a len c) ∧ Us w' a len N

theorem set_cell {N : Nat → Nat} {k : Nat} {xs : List Value} (hk : k < xs.length) (h : ∀ j, j < k → xs[j]? = some (.int .u32 (N j))) : ∀ j, j < k + 1 → (xs.set k (.int .u32 (N k)))[j]? = some (.int .u32 (N j)) := by
  intro j hj
  rw [List.getElem?_set]
  by_cases e : k = j
  · subst e; rw [if_pos rfl, if_pos hk]
  · rw [if_neg e]; exact h j (by omega)

set_option maxRecDepth 100000 in
set_option maxHeartbeats 1000000 in
theorem clone (a : Option Addr) (len cap : Nat) (N : Nat → Nat) (w : World) (hU : Us w a len N) (hl : len ≤ 65536) :
    Calls Trym.prog 10 #[.slice a len cap] w fun e w' => CloneSays len N e w' ∧ Below w.heap.size w w' := by
  obtain ⟨i0, hi, hz0, hz1, hz2⟩ := info_parts Trym.info32
  have heq := fun w => Lib.run_eql_slice_nil (P := Trym.prog) w 23 32 a len cap 0 0 Trym.underlying23
  cases a with
  | none =>
    have h0 := hU.nil rfl
    subst h0
    go_enter Trym.func10, Trym.ntmps10
    go_wp2
    go_ret
    exact ⟨⟨_, _, rfl, hU⟩, Below.refl _ _⟩
  | some x =>
    go_enter Trym.func10, Trym.ntmps10
    go_wp2_with (first | (at_make; refine wpList_make_full _ rfl _ _ 23 rfl w.heap.size 32 i0 (.int .u32 0) 1 Trym.underlying23 hi hz0 hz1 _ _ _ _ len rfl rfl rfl rfl (by rw [hz2]; omega) (by unfold maxLen; omega) (Nat.le_refl _) ?_; intro w1 hown hgrow))
    have hlen : (madeCells (Value.int .u32 0).cells (len * 1)).toList.length = len := by rw [Array.length_toList, size_madeCells]; omega
    generalize (madeCells (Value.int .u32 0).cells (len * 1)).toList = xs0 at hown hlen
    have hb1 : Below w.heap.size w w1 := (Below.refl _ _).grown hgrow (Nat.le_refl _) (fun k hk => by cases hk)
    clear hgrow
    go_loopw [4] (fun i wr => ∃ (k : Nat) (xs : List Value), k ≤ len ∧ i = .int .i64 k ∧ xs.length = len ∧ wr.ownsRow w.heap.size 32 1 (.slice (some ⟨w.heap.size, 0, none⟩) len len) len xs ∧ Below w.heap.size w wr ∧ Hid (∀ j, j < k → xs[j]? = some (.int .u32 (N j)))) (fun i _ => len - (intOf i).toNat)
    case atStart => exact ⟨0, xs0, Nat.zero_le _, rfl, hlen, hown, hb1, fun j hj => absurd hj (Nat.not_lt_zero _)⟩
    case round =>
      obtain ⟨k, xs, hk, rfl, hxl, hrow, hbr, hxs⟩ := hrel
      clear hown hlen hb1
      by_cases hlt : k < len
      · obtain ⟨b, off, hx, hb, ca, hu⟩ := (hU.later hbr).at hlt
        cases hx
        have hcm : wr.cell? ⟨w.heap.size, k, none⟩ = some xs[k] := by rw [hrow.cellAt k (by omega)]; exact List.getElem?_eq_getElem (by omega)
        have hfm : wr.frozen? ⟨w.heap.size, k, none⟩ = false := hrow.frozenAt k
        have HS : Hid (_ ∧ _) := hrow.stored k (.int .u32 (N k))
        have HX : Hid (_) := set_cell (by omega) hxs.out
        go_wp2
        go_roundw
        case rel => exact ⟨k + 1, _, by omega, by go_num, by simpa using hxl, HS.out.1, hbr.grown HS.out.2 hbr.size (fun j hj => by cases hj; exact Nat.le_refl _), HX.out⟩
        case measure => simp [intOf]; omega
      · obtain rfl : len = k := by omega
        go_wp2
        go_ret
        exact ⟨⟨_, _, rfl, hU.le, (fun e => by cases e), fun h0 => ⟨_, _, rfl, (hrow.lt _ rfl).2, fun i hi => by rw [Nat.zero_add, hrow.cellAt i (by omega)]; exact hxs.out i hi⟩, hU.u32⟩, hbr⟩
end Go.Proofs.Qxb6606257aMods
