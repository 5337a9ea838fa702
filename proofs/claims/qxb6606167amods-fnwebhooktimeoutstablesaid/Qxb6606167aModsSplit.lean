import Derived.Test.Qxb6606167aModsWT
import Derived.Deep.QuietTactic
import Derived.BigQuiet
namespace Go.Proofs.Qxb6606167aMods
open Go.RowKit

set_option maxHeartbeats 400000 in
theorem zwt_any (n : Nat) (h1 : 1 ≤ n) (h2 : n ≤ 65536) (w : World) :
    Calls Trym.prog 15 #[.int .i64 n] w fun e w' => e = .returned (.slice (some ⟨w.heap.size, 0, none⟩) n n) ∧ Below w.heap.size w w' ∧ w.heap.size < w'.heap.size ∧
      ∀ j, j < n → w'.cell? ⟨w.heap.size, j, none⟩ = some (.int .i32 (tmo n j)) := by
  go_enter Trym.func15, Trym.ntmps15
  go_wp2_with (go_at_call 19; refine (wt_any n h1 h2 _).mono ?_; rintro e w' ⟨rfl, hb, hs, hc⟩)
  go_ret
  exact ⟨rfl, hb, hs, hc⟩

def sh (n : Nat) : Int := 5 / (n : Int)
def lst (n : Nat) : Int := 5 - (5 / (n : Int)) * ((n : Int) - 1)
theorem tmo_lt (n j : Nat) (h : j + 1 < n) : tmo n j = sh n := by unfold tmo sh; rw [if_neg (by omega)]
theorem tmo_last (n j : Nat) (h : j + 1 = n) : tmo n j = lst n := by unfold tmo lst; rw [if_pos h]
theorem sh_le_lst (n : Nat) (h1 : 1 ≤ n) : 0 ≤ sh n ∧ sh n ≤ 5 ∧ sh n ≤ lst n ∧ lst n ≤ 5 := by
  unfold sh lst
  have e : (5 / (n : Int)) * (n : Int) + 5 % (n : Int) = 5 := by rw [Int.mul_comm]; exact Int.mul_ediv_add_emod 5 (n : Int)
  have hm := Int.emod_nonneg 5 (show (n : Int) ≠ 0 by omega)
  obtain ⟨b1, b2, b3, b4⟩ := share_bd n h1
  rw [Int.mul_sub, Int.mul_one] at b3 b4 ⊢
  omega
def psum (n k : Nat) : Int := if k = n then 5 else (k : Int) * sh n
theorem psum_zero (n : Nat) (h1 : 1 ≤ n) : psum n 0 = 0 := by unfold psum; rw [if_neg (by omega)]; simp
theorem psum_n (n : Nat) : psum n n = 5 := by unfold psum; rw [if_pos rfl]
theorem psum_bd (n k : Nat) (h1 : 1 ≤ n) (hk : k < n) : 0 ≤ psum n k ∧ psum n k ≤ 5 := by
  unfold psum; rw [if_neg (by omega)]
  have e : (5 / (n : Int)) * (n : Int) + 5 % (n : Int) = 5 := by rw [Int.mul_comm]; exact Int.mul_ediv_add_emod 5 (n : Int)
  have hm := Int.emod_nonneg 5 (show (n : Int) ≠ 0 by omega)
  have h0 : 0 ≤ 5 / (n : Int) := Int.ediv_nonneg (by omega) (by omega)
  have h6 : (5 / (n : Int)) * k ≤ (5 / (n : Int)) * (n : Int) := Int.mul_le_mul_of_nonneg_left (by omega) h0
  have h7 : 0 ≤ (5 / (n : Int)) * k := Int.mul_nonneg h0 (by omega)
  unfold sh; rw [Int.mul_comm]; omega
theorem psum_lt (n k : Nat) (hk : k + 1 < n) : psum n (k + 1) = psum n k + sh n := by
  unfold psum; rw [if_neg (by omega), if_neg (by omega)]; simp [Int.add_mul]
theorem psum_last (n k : Nat) (hk : k + 1 = n) : psum n (k + 1) = psum n k + lst n := by
  unfold psum lst sh; rw [if_pos (by omega), if_neg (by omega)]
  have : (k : Int) = (n : Int) - 1 := by omega
  rw [this, Int.mul_comm]; omega

set_option maxHeartbeats 400000 in
theorem split_in (n : Nat) (h1 : 1 ≤ n) (h2 : n ≤ 65536) (w : World) :
    Calls Trym.prog 6 #[.int .i64 n] w fun e w' => e = .returned (.bool true) ∧ Below w.heap.size w w' := by
  have hn1 : ¬ ((n : Int) < 1) := by omega
  have hn2 : ¬ ((65536 : Int) < (n : Int)) := by omega
  go_enter Trym.func6, Trym.ntmps6
  go_wp2_with (go_at_call 15; refine (zwt_any n h1 h2 _).mono ?_; rintro e w1 ⟨rfl, hb, hs, hc⟩)
  have HC : Hid (∀ j, j < n → w1.cell? ⟨w.heap.size, j, none⟩ = some (.int .i32 (tmo n j))) := hc
  clear hc
  go_loopw [4, 5] (fun s i wr => ∃ k : Nat, k ≤ n ∧ i = .int .i64 k ∧ s = .int .i64 (psum n k) ∧ Below w.heap.size w wr ∧
      Hid (∀ j, j < n → wr.cell? ⟨w.heap.size, j, none⟩ = some (.int .i32 (tmo n j)))) (fun _ i _ => n - (intOf i).toNat)
  case atStart => exact ⟨0, Nat.zero_le _, rfl, by rw [psum_zero n h1], hb, HC⟩
  case round =>
    obtain ⟨k, hk, rfl, rfl, hbr, hcr⟩ := hrel
    clear HC hb hs
    obtain ⟨s1, s2, s3, s4⟩ := sh_le_lst n h1
    by_cases hlt : k + 1 < n
    · have hp := psum_bd n k h1 (by omega)
      have c0 : wr.cell? ⟨w.heap.size, 0, none⟩ = some (.int .i32 (sh n)) := by rw [hcr.out 0 (by omega), tmo_lt n 0 (by omega)]
      have ck : wr.cell? ⟨w.heap.size, k, none⟩ = some (.int .i32 (sh n)) := by rw [hcr.out k (by omega), tmo_lt n k (by omega)]
      have hd : decide ((k : Int) < (n : Int) - 1) = true := by simp; omega
      have HP : Hid (psum n (k + 1) = psum n k + sh n) := psum_lt n k hlt
      go_wp2
      go_quiet (fail)
      go_wp2
      go_roundw
      case rel => exact ⟨k + 1, by omega, by go_num, by rw [HP.out], below_drewN hbr _, fun j hj => by rw [World.cell?_drewN]; exact hcr.out j hj⟩
      case measure => simp [intOf]; omega
    · by_cases hkn : k < n
      · have hp := psum_bd n k h1 (by omega)
        have ck : wr.cell? ⟨w.heap.size, k, none⟩ = some (.int .i32 (lst n)) := by rw [hcr.out k (by omega), tmo_last n k (by omega)]
        have hd : decide ((k : Int) < (n : Int) - 1) = false := by simp; omega
        have HP : Hid (psum n (k + 1) = psum n k + lst n) := psum_last n k (by omega)
        go_wp2
        go_quiet (fail)
        go_wp2
        go_roundw
        case rel => exact ⟨k + 1, by omega, by go_num, by rw [HP.out], below_drewN hbr _, fun j hj => by rw [World.cell?_drewN]; exact hcr.out j hj⟩
        case measure => simp [intOf]; omega
      · obtain rfl : k = n := by omega
        have c0 : ∃ v, wr.cell? ⟨w.heap.size, 0, none⟩ = some (.int .i32 v) ∧ v ≤ lst k := by
          by_cases h : k = 1
          · exact ⟨lst k, by rw [hcr.out 0 (by omega), tmo_last k 0 (by omega)], Int.le_refl _⟩
          · exact ⟨sh k, by rw [hcr.out 0 (by omega), tmo_lt k 0 (by omega)], s3⟩
        obtain ⟨v, c0, hv⟩ := c0
        have cl : wr.cell? ⟨w.heap.size, k - 1, none⟩ = some (.int .i32 (lst k)) := by rw [hcr.out (k - 1) (by omega), tmo_last k (k - 1) (by omega)]
        rw [psum_n]
        go_wp2
        go_quiet (fail)
        go_wp2
        go_ret
        exact ⟨by simp, below_drewN hbr _⟩

theorem split_out (n : Int) (h : n < 1 ∨ 65536 < n) (w : World) :
    Calls Trym.prog 6 #[.int .i64 n] w fun e w' => e = .returned (.bool true) ∧ Below w.heap.size w w' := by
  rcases h with h | h
  · go_enter Trym.func6, Trym.ntmps6
    go_wp2
    go_ret
    exact ⟨rfl, Below.refl _ _⟩
  · have h' : ¬ n < 1 := by omega
    go_enter Trym.func6, Trym.ntmps6
    go_wp2
    go_ret
    exact ⟨rfl, Below.refl _ _⟩

theorem split_any (n : Int) (w : World) :
    Calls Trym.prog 6 #[.int .i64 n] w fun e w' => e = .returned (.bool true) ∧ Below w.heap.size w w' := by
  by_cases h : 1 ≤ n ∧ n ≤ 65536
  · obtain ⟨m, rfl⟩ := Int.eq_ofNat_of_zero_le (show 0 ≤ n by omega)
    exact split_in m (by omega) (by omega) w
  · exact split_out n (by omega) w
end Go.Proofs.Qxb6606167aMods
