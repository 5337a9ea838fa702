import Derived.Test.Qxb6612698aModsProg
import Derived.WalkKit
import Derived.WalkSpells
import Derived.WalkLawsBesides
import Derived.Laws.BitsAllLaws
import Derived.Deep.QuietTactic
import Derived.BigQuiet
namespace Go.Proofs.Qxb6612698aMods
open Go.RowKit

theorem pow_lt (k : Nat) (hk : k < 64) : 2 ^ k < 18446744073709551616 := by
  have := Nat.pow_lt_pow_right (a := 2) (by omega) hk
  exact this

theorem wrap_pow (k : Nat) (hk : k < 64) : IntKind.u64.wrap (2 ^ k) = ((2 ^ k : Nat) : Int) := by
  have h := pow_lt k hk
  rw [IntKind.wrap_u64, show (2 : Int) ^ k = ((2 ^ k : Nat) : Int) by simp]
  generalize 2 ^ k = p at h
  omega

theorem testBit_div (X k : Nat) : X.testBit k = decide (X / 2 ^ k % 2 = 1) := Nat.testBit_eq_decide_div_mod_eq

theorem has_bit (X k : Nat) (hX : X < 18446744073709551616) (hk : k < 64) : (bits .and .u64 (X : Int) (IntKind.u64.wrap (2 ^ k)) != 0) = X.testBit k := by
  rw [wrap_pow k hk, u64_and_nat X (2 ^ k) hX (pow_lt k hk), nat_bit, testBit_div]
  have hp : 0 < 2 ^ k := Nat.two_pow_pos k
  by_cases h : X / 2 ^ k % 2 = 1
  · rw [h, decide_eq_true rfl, bne_iff_ne]
    omega
  · have h0 : X / 2 ^ k % 2 = 0 := by omega
    rw [h0]
    simp

theorem ret_bool {a b : Bool} (h : a = b) : Ending.returned (.bool a) = .returned (.bool b) := by rw [h]

set_option maxRecDepth 100000 in
set_option maxHeartbeats 1000000 in
theorem has_in (b r X : Nat) (w : World) (hr : r ≤ 65535) (hX : X < 18446744073709551616) (hc : w.cell? ⟨b, r / 64, none⟩ = some (.int .u64 X)) :
    Calls Trym.prog 6 #[.pointer (some ⟨b, 0, none⟩), .int .i32 r] w fun e w' => e = .returned (.bool (X.testBit (r % 64))) ∧ ∃ n, w' = w.drewN n := by
  have h0 : (0 : Int) ≤ (r : Int) := by omega
  have h1 : (r : Int) ≤ 65535 := by omega
  have hd : decide ((r : Int) ≤ 65535) = true := decide_eq_true h1
  have HB : Hid ((bits .and .u64 (X : Int) (IntKind.u64.wrap (2 ^ (r % 64))) != 0) = X.testBit (r % 64)) := has_bit X (r % 64) hX (by omega)
  clear hX
  go_enter Trym.func6, Trym.ntmps6
  go_wp2_with fail
  go_quiet (fail)
  go_wp2
  go_ret
  exact ⟨ret_bool HB.out, _, rfl⟩

set_option maxRecDepth 100000 in
set_option maxHeartbeats 1000000 in
theorem has_out (b : Nat) (r : Int) (w : World) (h1 : -2147483648 ≤ r) (h2 : r ≤ 2147483647) (hr : r < 0 ∨ 65535 < r) :
    Calls Trym.prog 6 #[.pointer (some ⟨b, 0, none⟩), .int .i32 r] w fun e w' => e = .returned (.bool false) ∧ ∃ n, w' = w.drewN n := by
  rcases hr with hr | hr
  · have hd : decide (r % 4294967296 ≤ 65535) = false := decide_eq_false (by omega)
    go_enter Trym.func6, Trym.ntmps6
    go_wp2_with fail
    go_quiet (fail)
    go_wp2
    go_ret
    exact ⟨rfl, _, rfl⟩
  · have hd : decide (r ≤ 65535) = false := decide_eq_false (by omega)
    go_enter Trym.func6, Trym.ntmps6
    go_wp2_with fail
    go_quiet (fail)
    go_wp2
    go_ret
    exact ⟨rfl, _, rfl⟩

theorem zhas_in (b r X : Nat) (w : World) (hr : r ≤ 65535) (hX : X < 18446744073709551616) (hc : w.cell? ⟨b, r / 64, none⟩ = some (.int .u64 X)) :
    Calls Trym.prog 5 #[.pointer (some ⟨b, 0, none⟩), .int .i32 r] w fun e w' => e = .returned (.bool (X.testBit (r % 64))) ∧ ∃ n, w' = w.drewN n := by
  go_enter Trym.func5, Trym.ntmps5
  go_wp2_with (go_at_call 6; refine (has_in b r X _ hr hX hc).mono ?_; rintro e w' ⟨rfl, n, rfl⟩)
  go_ret
  exact ⟨rfl, _, rfl⟩

theorem zhas_out (b : Nat) (r : Int) (w : World) (h1 : -2147483648 ≤ r) (h2 : r ≤ 2147483647) (hr : r < 0 ∨ 65535 < r) :
    Calls Trym.prog 5 #[.pointer (some ⟨b, 0, none⟩), .int .i32 r] w fun e w' => e = .returned (.bool false) ∧ ∃ n, w' = w.drewN n := by
  go_enter Trym.func5, Trym.ntmps5
  go_wp2_with (go_at_call 6; refine (has_out b r _ h1 h2 hr).mono ?_; rintro e w' ⟨rfl, n, rfl⟩)
  go_ret
  exact ⟨rfl, _, rfl⟩
end Go.Proofs.Qxb6612698aMods
