import Derived.Test.Qxb6612669aModsProg
import Derived.WalkKit
import Derived.WalkSpells
import Derived.WalkLawsBesides
import Derived.Maps.OwnSet
import Derived.Maps.StringElems
import Derived.Maps.RangeWalk
import Derived.Maps.Ext
namespace Go.Proofs.Qxb6612669aMods
open Go.RowKit

/-- WHAT THE WALK IS TOLD OF A SLICE OF PAIRS THAT CAME IN: element i's two cells hold the string K i and the value V i. -/
structure Pr (w : World) (a : Option Addr) (len : Nat) (K : Nat → ByteArray) (V : Nat → Value) : Prop where
  reach : len * 24 ≤ 140737488351232
  cells : 0 < len → ∃ b off, a = some ⟨b, off, none⟩ ∧ b < w.heap.size ∧ ∀ i, i < len → w.cell? ⟨b, off + i * 2, none⟩ = some (.string (K i)) ∧ w.cell? ⟨b, off + i * 2 + 1, none⟩ = some (V i)
  ksz : ∀ i, i < len → (K i).size ≤ maxLen
  vsz : ∀ i, i < len → ∀ s, V i = .string s → s.size ≤ maxLen

/-- A function that answers some bool. -/
def AnyBool (e : Ending) : Prop := ∃ r, e = .returned (.bool r)

theorem Pr.later {w w' : World} {a : Option Addr} {len : Nat} {K : Nat → ByteArray} {V : Nat → Value} (h : Pr w a len K V) (hb : Below w.heap.size w w') : Pr w' a len K V := by
  refine ⟨h.reach, fun h0 => ?_, h.ksz, h.vsz⟩
  obtain ⟨b, off, ha, hlt, hc⟩ := h.cells h0
  exact ⟨b, off, ha, Nat.lt_of_lt_of_le hlt hb.size, fun i hi => ⟨(hb.cell hlt).trans (hc i hi).1, (hb.cell hlt).trans (hc i hi).2⟩⟩

/-- One round's cells, at the index. -/
theorem Pr.at {w : World} {a : Option Addr} {len : Nat} {K : Nat → ByteArray} {V : Nat → Value} (h : Pr w a len K V) {k : Nat} (hk : k < len) :
    ∃ b off, a = some ⟨b, off, none⟩ ∧ w.cell? ⟨b, off + k * 2, none⟩ = some (.string (K k)) ∧ w.cell? ⟨b, off + k * 2 + 1, none⟩ = some (V k) ∧ (K k).size ≤ maxLen := by
  obtain ⟨b, off, ha, _, hc⟩ := h.cells (by omega)
  exact ⟨b, off, ha, (hc k hk).1, (hc k hk).2, h.ksz k hk⟩

set_option maxHeartbeats 2000000 in
theorem bytes5 (c : Bool) (a1 a2 a3 : Option Addr) (n1 n2 n3 c1 c2 c3 : Nat) (K1 K2 K3 V1 V3 : Nat → ByteArray) (B2 : Nat → Bool) (w : World)
    (p1 : Pr w a1 n1 K1 (fun i => .string (V1 i))) (p2 : Pr w a2 n2 K2 (fun i => .bool (B2 i))) (p3 : Pr w a3 n3 K3 (fun i => .string (V3 i))) :
    Calls Trym.prog 5 #[.bool c, .slice a1 n1 c1, .slice a2 n2 c2, .slice a3 n3 c3] w fun e w' => AnyBool e ∧ w' = w := by
  go_enter Trym.func5, Trym.ntmps5
  go_wp2
  · go_ret; exact ⟨⟨_, rfl⟩, rfl⟩
  go_loop [9, 10] (fun x i => ∃ (k : Nat) (s : Int), k ≤ n1 ∧ i = .int .i64 k ∧ 0 ≤ s ∧ s ≤ 1048576 ∧ x = .int .i64 s) (fun _ i => n1 - (intOf i).toNat)
  case atStart => exact ⟨0, _, Nat.zero_le _, rfl, by omega, by omega, rfl⟩
  case round =>
    obtain ⟨k, s, hk, rfl, hs0, hs1, rfl⟩ := hrel
    by_cases hlt : k < n1
    · obtain ⟨b, off, rfl, ca, cb, hsz⟩ := p1.at hlt
      have hvz := p1.vsz k hlt _ rfl
      unfold maxLen at hsz hvz
      go_wp2
      · go_ret; exact ⟨⟨_, rfl⟩, rfl⟩
      · go_ret; exact ⟨⟨_, rfl⟩, rfl⟩
      · go_ret; exact ⟨⟨_, rfl⟩, rfl⟩
      · go_ret; exact ⟨⟨_, rfl⟩, rfl⟩
      · go_round
        case rel => exact ⟨k + 1, _, by omega, by go_num, by omega, by omega, rfl⟩
        case measure => simp [intOf]; omega
    · go_wp2
      · go_ret; exact ⟨⟨_, rfl⟩, rfl⟩
      · go_ret; exact ⟨⟨_, rfl⟩, rfl⟩
      go_loop [9, 11] (fun x i => ∃ (k : Nat) (s : Int), k ≤ n2 ∧ i = .int .i64 k ∧ 0 ≤ s ∧ s ≤ 1048576 ∧ x = .int .i64 s) (fun _ i => n2 - (intOf i).toNat)
      case atStart => exact ⟨0, _, Nat.zero_le _, rfl, by omega, by omega, rfl⟩
      case round =>
        obtain ⟨k, s, hk, rfl, hs0, hs1, rfl⟩ := hrel
        by_cases hlt : k < n2
        · obtain ⟨b, off, rfl, ca, cb, hsz⟩ := p2.at hlt
          unfold maxLen at hsz
          go_wp2
          · go_ret; exact ⟨⟨_, rfl⟩, rfl⟩
          · go_ret; exact ⟨⟨_, rfl⟩, rfl⟩
          · go_round
            case rel => exact ⟨k + 1, _, by omega, by go_num, by omega, by omega, rfl⟩
            case measure => simp [intOf]; omega
        · go_wp2
          · go_ret; exact ⟨⟨_, rfl⟩, rfl⟩
          · go_ret; exact ⟨⟨_, rfl⟩, rfl⟩
          go_loop [9, 12] (fun x i => ∃ (k : Nat) (s : Int), k ≤ n3 ∧ i = .int .i64 k ∧ 0 ≤ s ∧ s ≤ 1048576 ∧ x = .int .i64 s) (fun _ i => n3 - (intOf i).toNat)
          case atStart => exact ⟨0, _, Nat.zero_le _, rfl, by omega, by omega, rfl⟩
          case round =>
            obtain ⟨k, s, hk, rfl, hs0, hs1, rfl⟩ := hrel
            by_cases hlt : k < n3
            · obtain ⟨b, off, rfl, ca, cb, hsz⟩ := p3.at hlt
              have hvz := p3.vsz k hlt _ rfl
              unfold maxLen at hsz hvz
              go_wp2
              · go_ret; exact ⟨⟨_, rfl⟩, rfl⟩
              · go_ret; exact ⟨⟨_, rfl⟩, rfl⟩
              · go_ret; exact ⟨⟨_, rfl⟩, rfl⟩
              · go_ret; exact ⟨⟨_, rfl⟩, rfl⟩
              · go_round
                case rel => exact ⟨k + 1, _, by omega, by go_num, by omega, by omega, rfl⟩
                case measure => simp [intOf]; omega
            · go_wp2
              go_ret; exact ⟨⟨_, rfl⟩, rfl⟩

set_option maxHeartbeats 2000000 in
theorem bytes12 (c : Bool) (a1 a2 a3 : Option Addr) (n1 n2 n3 c1 c2 c3 : Nat) (K1 K2 K3 V1 V3 : Nat → ByteArray) (B2 : Nat → Bool) (w : World)
    (p1 : Pr w a1 n1 K1 (fun i => .string (V1 i))) (p2 : Pr w a2 n2 K2 (fun i => .bool (B2 i))) (p3 : Pr w a3 n3 K3 (fun i => .string (V3 i))) :
    Calls Trym.prog 12 #[.bool c, .slice a1 n1 c1, .slice a2 n2 c2, .slice a3 n3 c3] w fun e w' => AnyBool e ∧ w' = w := by
  go_enter Trym.func12, Trym.ntmps12
  go_wp2
  · go_ret; exact ⟨⟨_, rfl⟩, rfl⟩
  go_loop [9, 10] (fun x i => ∃ (k : Nat) (s : Int), k ≤ n1 ∧ i = .int .i64 k ∧ 0 ≤ s ∧ s ≤ 1048576 ∧ x = .int .i64 s) (fun _ i => n1 - (intOf i).toNat)
  case atStart => exact ⟨0, _, Nat.zero_le _, rfl, by omega, by omega, rfl⟩
  case round =>
    obtain ⟨k, s, hk, rfl, hs0, hs1, rfl⟩ := hrel
    by_cases hlt : k < n1
    · obtain ⟨b, off, rfl, ca, cb, hsz⟩ := p1.at hlt
      have hvz := p1.vsz k hlt _ rfl
      unfold maxLen at hsz hvz
      go_wp2
      · go_ret; exact ⟨⟨_, rfl⟩, rfl⟩
      · go_ret; exact ⟨⟨_, rfl⟩, rfl⟩
      · go_ret; exact ⟨⟨_, rfl⟩, rfl⟩
      · go_ret; exact ⟨⟨_, rfl⟩, rfl⟩
      · go_round
        case rel => exact ⟨k + 1, _, by omega, by go_num, by omega, by omega, rfl⟩
        case measure => simp [intOf]; omega
    · go_wp2
      · go_ret; exact ⟨⟨_, rfl⟩, rfl⟩
      · go_ret; exact ⟨⟨_, rfl⟩, rfl⟩
      go_loop [9, 11] (fun x i => ∃ (k : Nat) (s : Int), k ≤ n2 ∧ i = .int .i64 k ∧ 0 ≤ s ∧ s ≤ 1048576 ∧ x = .int .i64 s) (fun _ i => n2 - (intOf i).toNat)
      case atStart => exact ⟨0, _, Nat.zero_le _, rfl, by omega, by omega, rfl⟩
      case round =>
        obtain ⟨k, s, hk, rfl, hs0, hs1, rfl⟩ := hrel
        by_cases hlt : k < n2
        · obtain ⟨b, off, rfl, ca, cb, hsz⟩ := p2.at hlt
          unfold maxLen at hsz
          go_wp2
          · go_ret; exact ⟨⟨_, rfl⟩, rfl⟩
          · go_ret; exact ⟨⟨_, rfl⟩, rfl⟩
          · go_round
            case rel => exact ⟨k + 1, _, by omega, by go_num, by omega, by omega, rfl⟩
            case measure => simp [intOf]; omega
        · go_wp2
          · go_ret; exact ⟨⟨_, rfl⟩, rfl⟩
          · go_ret; exact ⟨⟨_, rfl⟩, rfl⟩
          go_loop [9, 12] (fun x i => ∃ (k : Nat) (s : Int), k ≤ n3 ∧ i = .int .i64 k ∧ 0 ≤ s ∧ s ≤ 1048576 ∧ x = .int .i64 s) (fun _ i => n3 - (intOf i).toNat)
          case atStart => exact ⟨0, _, Nat.zero_le _, rfl, by omega, by omega, rfl⟩
          case round =>
            obtain ⟨k, s, hk, rfl, hs0, hs1, rfl⟩ := hrel
            by_cases hlt : k < n3
            · obtain ⟨b, off, rfl, ca, cb, hsz⟩ := p3.at hlt
              have hvz := p3.vsz k hlt _ rfl
              unfold maxLen at hsz hvz
              go_wp2
              · go_ret; exact ⟨⟨_, rfl⟩, rfl⟩
              · go_ret; exact ⟨⟨_, rfl⟩, rfl⟩
              · go_ret; exact ⟨⟨_, rfl⟩, rfl⟩
              · go_ret; exact ⟨⟨_, rfl⟩, rfl⟩
              · go_round
                case rel => exact ⟨k + 1, _, by omega, by go_num, by omega, by omega, rfl⟩
                case measure => simp [intOf]; omega
            · go_wp2
              go_ret; exact ⟨⟨_, rfl⟩, rfl⟩

end Go.Proofs.Qxb6612669aMods
