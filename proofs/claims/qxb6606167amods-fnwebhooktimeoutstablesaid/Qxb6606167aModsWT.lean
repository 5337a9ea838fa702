import Derived.Test.Qxb6606167aModsProg
import Derived.WalkKit
import Derived.WalkSpells
import Derived.WalkLawsBesides
namespace Go.Proofs.Qxb6606167aMods
open Go.RowKit

theorem Trym.info21 : (Trym.prog.info? 21).map (fun i => (i.zero, i.size, i.bytes)) = some (some (.int .i32 0), 1, 4) := by kernel_rfl

/-- The last webhook gets what is left, the others an even share. -/
def tmo (n j : Nat) : Int := if j + 1 = n then 5 - (5 / (n : Int)) * ((n : Int) - 1) else 5 / (n : Int)

theorem share_bd (n : Nat) (h1 : 1 ≤ n) : 0 ≤ (5 / (n : Int)) ∧ (5 / (n : Int)) ≤ 5 ∧ 0 ≤ (5 / (n : Int)) * ((n : Int) - 1) ∧ (5 / (n : Int)) * ((n : Int) - 1) ≤ 5 := by
  have e : (5 / (n : Int)) * (n : Int) + 5 % (n : Int) = 5 := by rw [Int.mul_comm]; exact Int.mul_ediv_add_emod 5 (n : Int)
  have hm := Int.emod_nonneg 5 (show (n : Int) ≠ 0 by omega)
  have h0 : 0 ≤ 5 / (n : Int) := Int.ediv_nonneg (by omega) (by omega)
  have h5 : 5 / (n : Int) ≤ 5 := Int.ediv_le_self _ (by omega)
  rw [Int.mul_sub, Int.mul_one]
  have h6 : (5 / (n : Int)) * 1 ≤ (5 / (n : Int)) * (n : Int) := Int.mul_le_mul_of_nonneg_left (by omega) h0
  omega

theorem set_step {k : Nat} {v : Value} {xs : List Value} (hk : k < xs.length) (h : ∀ j, j < k → xs[j]? = some v) : ∀ j, j < k + 1 → (xs.set k v)[j]? = some v := by
  intro j hj
  rw [List.getElem?_set]
  split
  · simp_all
  · exact h j (by omega)

theorem cells_end {B n : Nat} {wx : World} {xs : List Value} (hl : xs.length = n) (h : ∀ j, j < n → xs[j]? = some (.int .i32 (5 / (n : Int))))
    (ho : wx.ownsRow B 21 1 (.slice (some ⟨B, 0, none⟩) n n) n (xs.set (n - 1) (.int .i32 (5 - (5 / (n : Int)) * ((n : Int) - 1))))) :
    ∀ j, j < n → wx.cell? ⟨B, j, none⟩ = some (.int .i32 (tmo n j)) := by
  intro j hj
  rw [ho.cellAt j (by omega), List.getElem?_set, tmo]
  by_cases e : j + 1 = n
  · rw [if_pos (by omega), if_pos (by omega), if_pos e]
  · rw [if_neg (by omega), if_neg e]
    exact h j hj

set_option maxHeartbeats 400000 in
theorem wt_any (n : Nat) (h1 : 1 ≤ n) (h2 : n ≤ 65536) (w : World) :
    Calls Trym.prog 19 #[.int .i64 n] w fun e w' => e = .returned (.slice (some ⟨w.heap.size, 0, none⟩) n n) ∧ Below w.heap.size w w' ∧ w.heap.size < w'.heap.size ∧
      ∀ j, j < n → w'.cell? ⟨w.heap.size, j, none⟩ = some (.int .i32 (tmo n j)) := by
  obtain ⟨i0, hi, hz0, hz1, hz2⟩ := info_parts Trym.info21
  obtain ⟨b1, b2, b3, b4⟩ := share_bd n h1
  go_enter Trym.func19, Trym.ntmps19
  go_wp2_with (first | (at_make; refine wpList_make_full _ rfl _ _ 32 rfl w.heap.size 21 i0 (.int .i32 0) 1 Trym.underlying32 hi hz0 hz1 _ _ _ _ n rfl rfl rfl rfl (by rw [hz2]; omega) (by unfold maxLen; omega) (Nat.le_refl _) ?_; intro w1 hown hgrow) | go_in)
  have hlen : (madeCells (Value.int .i32 0).cells (n * 1)).toList.length = n := by rw [Array.length_toList, size_madeCells]; omega
  have hws : w.heap.size < w1.heap.size := (hown.lt w.heap.size rfl).2
  have hbel : Below w.heap.size w w1 := (Below.refl _ _).grown hgrow (Nat.le_refl _) (fun k hk => by cases hk)
  generalize (madeCells (Value.int .i32 0).cells (n * 1)).toList = xs0 at hown hlen
  clear hgrow
  go_loopw [13] (fun i wr => ∃ (k : Nat) (xs : List Value), k ≤ n ∧ i = .int .i64 k ∧ xs.length = n ∧ wr.ownsRow w.heap.size 21 1 (.slice (some ⟨w.heap.size, 0, none⟩) n n) n xs ∧ Below w.heap.size w wr ∧ w.heap.size < wr.heap.size ∧
      ∀ j, j < k → xs[j]? = some (.int .i32 (5 / (n : Int)))) (fun i _ => n - (intOf i).toNat)
  case atStart => exact ⟨0, xs0, Nat.zero_le _, rfl, hlen, hown, hbel, hws, fun j hj => absurd hj (Nat.not_lt_zero _)⟩
  case round =>
    obtain ⟨k, xs, hk, rfl, hxl, hrow, hbl, hsz, hxs⟩ := hrel
    clear hown hlen hbel hws
    by_cases hlt : k < n
    · have hc : wr.cell? ⟨w.heap.size, k, none⟩ = some xs[k] := by rw [hrow.cellAt k (by omega)]; exact List.getElem?_eq_getElem (by omega)
      have hf : wr.frozen? ⟨w.heap.size, k, none⟩ = false := hrow.frozenAt k
      have R := hrow.stored k (.int .i32 (5 / (n : Int)))
      have HR : Hid (_ ∧ _) := R
      have HX : Hid (_) := set_step (by omega) hxs
      clear R hxs
      go_wp2
      go_roundw
      case rel => exact ⟨k + 1, _, by omega, by go_num, by simpa using hxl, HR.out.1, hbl.grown HR.out.2 (by omega) (fun j hj => by cases hj; exact Nat.le_refl _), by simpa using hsz, HX.out⟩
      case measure => simp [intOf]; omega
    · obtain rfl : k = n := by omega
      have hc : wr.cell? ⟨w.heap.size, k - 1, none⟩ = some xs[k - 1] := by rw [hrow.cellAt (k - 1) (by omega)]; exact List.getElem?_eq_getElem (by omega)
      have hf : wr.frozen? ⟨w.heap.size, k - 1, none⟩ = false := hrow.frozenAt (k - 1)
      have R := hrow.stored (k - 1) (.int .i32 (5 - (5 / (k : Int)) * ((k : Int) - 1)))
      have HR : Hid (_ ∧ _) := R
      have HX : Hid (_) := cells_end hxl hxs R.1
      clear R hxs
      go_wp2
      go_ret
      exact ⟨rfl, hbl.grown HR.out.2 (by omega) (fun j hj => by cases hj; exact Nat.le_refl _), by simpa using hsz, HX.out⟩
end Go.Proofs.Qxb6606167aMods
