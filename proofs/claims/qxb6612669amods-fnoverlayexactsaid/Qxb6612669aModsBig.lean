import Derived.Test.Qxb6612669aModsBase
namespace Go.Proofs.Qxb6612669aMods
open Go.RowKit

theorem addLen (s n : Int) (w : World) (hs0 : 0 ≤ s) (hs1 : s ≤ 8388608) (hn : 0 ≤ n) :
    Calls Trym.prog 14 #[.int .i64 s, .int .i64 n] w fun e w' => (∃ x : Int, e = .returned (.int .i64 x) ∧ 0 ≤ x ∧ x ≤ s + 1048577 ∧ (n ≤ 1048576 → x = s + n)) ∧ w' = w := by
  go_enter Trym.func14, Trym.ntmps14
  go_wp2
  · go_ret; exact ⟨⟨_, rfl, by omega, by omega, by omega⟩, rfl⟩
  · go_ret; exact ⟨⟨_, rfl, by omega, by omega, by omega⟩, rfl⟩

set_option maxHeartbeats 2000000 in
theorem tooBig (a1 a2 a3 : Option Addr) (n1 n2 n3 c1 c2 c3 : Nat) (K1 K2 K3 V1 V3 : Nat → ByteArray) (B2 : Nat → Bool) (w : World)
    (p1 : Pr w a1 n1 K1 (fun i => .string (V1 i))) (p2 : Pr w a2 n2 K2 (fun i => .bool (B2 i))) (p3 : Pr w a3 n3 K3 (fun i => .string (V3 i))) :
    Calls Trym.prog 6 #[.slice a1 n1 c1, .slice a2 n2 c2, .slice a3 n3 c3] w fun e w' => AnyBool e ∧ w' = w := by
  have r1 := p1.reach
  have r2 := p2.reach
  have r3 := p3.reach
  go_enter Trym.func6, Trym.ntmps6
  go_wp2
  go_loop [7, 8] (fun x i => ∃ (k : Nat) (s : Int), k ≤ n1 ∧ i = .int .i64 k ∧ 0 ≤ s ∧ s ≤ 1048576 ∧ x = .int .i64 s) (fun _ i => n1 - (intOf i).toNat)
  case atStart => exact ⟨0, _, Nat.zero_le _, rfl, by omega, by omega, rfl⟩
  case round =>
    obtain ⟨k, s, hk, rfl, hs0, hs1, rfl⟩ := hrel
    by_cases hlt : k < n1
    · obtain ⟨b, off, rfl, ca, cb, hsz⟩ := p1.at hlt
      have hvz := p1.vsz k hlt _ rfl
      unfold maxLen at hsz hvz
      go_wp2_with fail
      refine (addLen _ _ _ (by omega) (by omega) (by omega)).mono ?_
      rintro e w' ⟨⟨x1, rfl, x10, x11, _⟩, rfl⟩
      go_wp2_with fail
      refine (addLen _ _ _ (by omega) (by omega) (by omega)).mono ?_
      rintro e w' ⟨⟨x2, rfl, x20, x21, _⟩, rfl⟩
      go_wp2_with fail
      · go_ret; exact ⟨⟨_, rfl⟩, rfl⟩
      refine (addLen _ _ _ (by omega) (by omega) (by omega)).mono ?_
      rintro e w' ⟨⟨x3, rfl, x30, x31, _⟩, rfl⟩
      go_wp2_with fail
      · go_ret; exact ⟨⟨_, rfl⟩, rfl⟩
      · go_round
        case rel => exact ⟨k + 1, _, by omega, by go_num, by omega, by omega, rfl⟩
        case measure => simp [intOf]; omega
    · go_wp2
      go_loop [7, 9] (fun x i => ∃ (k : Nat) (s : Int), k ≤ n2 ∧ i = .int .i64 k ∧ 0 ≤ s ∧ s ≤ 1048576 ∧ x = .int .i64 s) (fun _ i => n2 - (intOf i).toNat)
      case atStart => exact ⟨0, _, Nat.zero_le _, rfl, by omega, by omega, rfl⟩
      case round =>
        obtain ⟨k, s, hk, rfl, hs0, hs1, rfl⟩ := hrel
        by_cases hlt : k < n2
        · obtain ⟨b, off, rfl, ca, cb, hsz⟩ := p2.at hlt
          unfold maxLen at hsz
          go_wp2_with fail
          refine (addLen _ _ _ (by omega) (by omega) (by omega)).mono ?_
          rintro e w' ⟨⟨x1, rfl, x10, x11, _⟩, rfl⟩
          go_wp2_with fail
          refine (addLen _ _ _ (by omega) (by omega) (by omega)).mono ?_
          rintro e w' ⟨⟨x2, rfl, x20, x21, _⟩, rfl⟩
          go_wp2_with fail
          · go_ret; exact ⟨⟨_, rfl⟩, rfl⟩
          · go_round
            case rel => exact ⟨k + 1, _, by omega, by go_num, by omega, by omega, rfl⟩
            case measure => simp [intOf]; omega
        · go_wp2
          go_loop [7, 10] (fun x i => ∃ (k : Nat) (s : Int), k ≤ n3 ∧ i = .int .i64 k ∧ 0 ≤ s ∧ s ≤ 1048576 ∧ x = .int .i64 s) (fun _ i => n3 - (intOf i).toNat)
          case atStart => exact ⟨0, _, Nat.zero_le _, rfl, by omega, by omega, rfl⟩
          case round =>
            obtain ⟨k, s, hk, rfl, hs0, hs1, rfl⟩ := hrel
            by_cases hlt : k < n3
            · obtain ⟨b, off, rfl, ca, cb, hsz⟩ := p3.at hlt
              have hvz := p3.vsz k hlt _ rfl
              unfold maxLen at hsz hvz
              go_wp2_with fail
              refine (addLen _ _ _ (by omega) (by omega) (by omega)).mono ?_
              rintro e w' ⟨⟨x1, rfl, x10, x11, _⟩, rfl⟩
              go_wp2_with fail
              refine (addLen _ _ _ (by omega) (by omega) (by omega)).mono ?_
              rintro e w' ⟨⟨x2, rfl, x20, x21, _⟩, rfl⟩
              go_wp2_with fail
              · go_ret; exact ⟨⟨_, rfl⟩, rfl⟩
              refine (addLen _ _ _ (by omega) (by omega) (by omega)).mono ?_
              rintro e w' ⟨⟨x3, rfl, x30, x31, _⟩, rfl⟩
              go_wp2_with fail
              · go_ret; exact ⟨⟨_, rfl⟩, rfl⟩
              · go_round
                case rel => exact ⟨k + 1, _, by omega, by go_num, by omega, by omega, rfl⟩
                case measure => simp [intOf]; omega
            · go_wp2
              go_ret; exact ⟨⟨_, rfl⟩, rfl⟩
end Go.Proofs.Qxb6612669aMods
