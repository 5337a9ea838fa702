import Derived.Test.Qxb6606167aModsSplit
namespace Go.Proofs.Qxb6606167aMods
open Go.RowKit

set_option maxHeartbeats 400000 in
theorem want_any (n : Nat) (h1 : 1 ≤ n) (h2 : n ≤ 5) (w : World) :
    Calls Trym.prog 16 #[.int .i64 n] w fun e w' => e = .returned (.slice (some ⟨w.heap.size, 0, none⟩) n n) ∧ Below w.heap.size w w' ∧ w.heap.size < w'.heap.size ∧
      ∀ j, j < n → w'.cell? ⟨w.heap.size, j, none⟩ = some (.int .i32 (tmo n j)) := by
  rcases (show n = 1 ∨ n = 2 ∨ n = 3 ∨ n = 4 ∨ n = 5 from by omega) with rfl | rfl | rfl | rfl | rfl
  all_goals
    go_enter Trym.func16, Trym.ntmps16
    go_wp2
    go_ret
    refine ⟨rfl, (Below.refl _ _).alloc (Nat.le_refl _) _, by simp, fun j hj => ?_⟩
    have hj' : j = 0 ∨ j = 1 ∨ j = 2 ∨ j = 3 ∨ j = 4 := by omega
    rcases hj' with rfl | rfl | rfl | rfl | rfl
    all_goals first | omega | (simp [tmo])

set_option maxHeartbeats 400000 in
theorem table_in (n : Nat) (h1 : 1 ≤ n) (h2 : n ≤ 5) (w : World) :
    Calls Trym.prog 5 #[.int .i64 n] w fun e w' => e = .returned (.bool true) ∧ Below w.heap.size w w' := by
  have hn1 : ¬ ((n : Int) < 1) := by omega
  have hn2 : ¬ ((5 : Int) < (n : Int)) := by omega
  go_enter Trym.func5, Trym.ntmps5
  go_wp2_with fail
  refine (zwt_any n h1 (by omega) _).mono ?_
  rintro e w1 ⟨rfl, hb1, hs1, hc1⟩
  have HC1 : Hid (∀ j, j < n → w1.cell? ⟨w.heap.size, j, none⟩ = some (.int .i32 (tmo n j))) := hc1
  clear hc1
  go_wp2_with fail
  refine (want_any n h1 h2 _).mono ?_
  rintro e w2 ⟨rfl, hb2, hs2, hc2⟩
  have HC2 : Hid (∀ j, j < n → w2.cell? ⟨w1.heap.size, j, none⟩ = some (.int .i32 (tmo n j))) := hc2
  have HC3 : Hid (∀ j, j < n → w2.cell? ⟨w.heap.size, j, none⟩ = some (.int .i32 (tmo n j))) := fun j hj => (hb2.cell hs1).trans (HC1.out j hj)
  have hb : Below w.heap.size w w2 := hb1.trans (hb2.mono (Nat.le_of_lt hs1))
  clear hc2 HC1 hb2 hs2 hb1
  go_wp2_with fail
  go_loopw [5] (fun i wr => ∃ k : Nat, k ≤ n ∧ i = .int .i64 k ∧ Below w.heap.size w wr ∧
      Hid (∀ j, j < n → wr.cell? ⟨w.heap.size, j, none⟩ = some (.int .i32 (tmo n j))) ∧ Hid (∀ j, j < n → wr.cell? ⟨w1.heap.size, j, none⟩ = some (.int .i32 (tmo n j)))) (fun i _ => n - (intOf i).toNat)
  case atStart => exact ⟨0, Nat.zero_le _, rfl, hb, HC3, HC2⟩
  case round =>
    obtain ⟨k, hk, rfl, hbr, hca, hcb⟩ := hrel
    clear HC2 HC3 hb
    by_cases hkn : k < n
    · have ca := hca.out k hkn
      have cb := hcb.out k hkn
      go_wp2
      go_quiet (fail)
      go_wp2
      go_roundw
      case rel => exact ⟨k + 1, by omega, by go_num, below_drewN hbr _, fun j hj => by rw [World.cell?_drewN]; exact hca.out j hj, fun j hj => by rw [World.cell?_drewN]; exact hcb.out j hj⟩
      case measure => simp [intOf]; omega
    · go_wp2
      go_ret
      exact ⟨rfl, hbr⟩

theorem table_out (n : Int) (h : n < 1 ∨ 5 < n) (w : World) :
    Calls Trym.prog 5 #[.int .i64 n] w fun e w' => e = .returned (.bool true) ∧ Below w.heap.size w w' := by
  rcases h with h | h
  · go_enter Trym.func5, Trym.ntmps5
    go_wp2
    go_ret
    exact ⟨rfl, Below.refl _ _⟩
  · have h' : ¬ n < 1 := by omega
    go_enter Trym.func5, Trym.ntmps5
    go_wp2
    go_ret
    exact ⟨rfl, Below.refl _ _⟩

theorem table_any (n : Int) (w : World) :
    Calls Trym.prog 5 #[.int .i64 n] w fun e w' => e = .returned (.bool true) ∧ Below w.heap.size w w' := by
  by_cases h : 1 ≤ n ∧ n ≤ 5
  · obtain ⟨m, rfl⟩ := Int.eq_ofNat_of_zero_le (show 0 ≤ n by omega)
    exact table_in m (by omega) (by omega) w
  · exact table_out n (by omega) w
end Go.Proofs.Qxb6606167aMods
