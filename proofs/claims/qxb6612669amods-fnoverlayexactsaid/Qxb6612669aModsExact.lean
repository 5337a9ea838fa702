import Derived.Test.Qxb6612669aModsSeen
namespace Go.Proofs.Qxb6612669aMods
open Go.RowKit

set_option maxRecDepth 100000 in
set_option maxHeartbeats 4000000 in
theorem exactT (c : Bool) (a1 a2 a3 : Option Addr) (n1 n2 n3 c1 c2 c3 : Nat) (K1 K2 K3 V1 V3 : Nat → ByteArray) (B2 : Nat → Bool) (w : World)
    (p1 : Pr w a1 n1 K1 (fun i => .string (V1 i))) (p2 : Pr w a2 n2 K2 (fun i => .bool (B2 i))) (p3 : Pr w a3 n3 K3 (fun i => .string (V3 i))) :
    Calls Trym.prog 3 #[.bool c, .slice a1 n1 c1, .slice a2 n2 c2, .slice a3 n3 c3] w fun e w' => e = .returned (.bool true) ∧ Below w.heap.size w w' := by
  have hmm := fun x w => run_makeMap_hint (P := Trym.prog) Trym.underlying28 x w
  have r1 := p1.reach
  have r2 := p2.reach
  have r3 := p3.reach
  go_enter Trym.func3, Trym.ntmps3
  go_wp2_with fail
  refine (bytes5 c a1 a2 a3 n1 n2 n3 c1 c2 c3 K1 K2 K3 V1 V3 B2 _ p1 p2 p3).mono ?_
  rintro e w' ⟨⟨r, rfl⟩, rfl⟩
  cases r
  · go_wp2_with fail
    go_ret; exact ⟨rfl, Below.refl _ _⟩
  go_wp2_with fail
  refine (tooBig a1 a2 a3 n1 n2 n3 c1 c2 c3 K1 K2 K3 V1 V3 B2 _ p1 p2 p3).mono ?_
  rintro e w ⟨⟨r, rfl⟩, rfl⟩
  cases r
  case true =>
    go_wp2_with fail
    go_ret; exact ⟨rfl, Below.refl _ _⟩
  go_wp2_with fail
  refine (kvMap a1 n1 c1 K1 V1 _ p1).mono ?_
  rintro e w1 ⟨rfl, oM, hb1⟩
  have hz1 := World.ownsMap.lt oM
  go_wp2_with fail
  refine (kbMap a2 n2 c2 K2 B2 _ (p2.later hb1)).mono ?_
  rintro e w2 ⟨rfl, oN, hb2⟩
  have hz2 := World.ownsMap.lt oN
  have hb02 : Below w.heap.size w w2 := hb1.trans (hb2.mono hb1.size)
  have oM2 := ownsMap_later oM hb2
  clear oM hb1 hb2
  go_wp2_with fail
  refine (kvMap a3 n3 c3 K3 V3 _ (p3.later hb02)).mono ?_
  rintro e w3 ⟨rfl, oX, hb3⟩
  have hz3 := World.ownsMap.lt oX
  have hb03 : Below w.heap.size w w3 := hb02.trans (hb3.mono hb02.size)
  have oM3 := ownsMap_later oM2 hb3
  have oN3 := ownsMap_later oN hb3
  clear oM2 oN hb02 hb3
  go_wp2_with fail
  refine (kvMap a1 n1 c1 K1 V1 _ (p1.later hb03)).mono ?_
  rintro e w4 ⟨rfl, oS, hb4⟩
  have hz4 := World.ownsMap.lt oS
  have hb04 : Below w.heap.size w w4 := hb03.trans (hb4.mono hb03.size)
  have oM4 := ownsMap_later oM3 hb4
  have oN4 := ownsMap_later oN3 hb4
  have oX4 := ownsMap_later oX hb4
  clear oM3 oN3 oX hb03 hb4
  go_wp2_with fail
  refine (kbMap a2 n2 c2 K2 B2 _ (p2.later hb04)).mono ?_
  rintro e w5 ⟨rfl, oE, hb5⟩
  have hz5 := World.ownsMap.lt oE
  have hb05 : Below w.heap.size w w5 := hb04.trans (hb5.mono hb04.size)
  have oM5 := ownsMap_later oM4 hb5
  have oN5 := ownsMap_later oN4 hb5
  have oX5 := ownsMap_later oX4 hb5
  have oS5 := ownsMap_later oS hb5
  clear oM4 oN4 oX4 oS hb04 hb5
  go_wp2_with fail
  refine (kvMap a3 n3 c3 K3 V3 _ (p3.later hb05)).mono ?_
  rintro e w6 ⟨rfl, oO, hb6⟩
  have hz6 := World.ownsMap.lt oO
  have hb06 : Below w.heap.size w w6 := hb05.trans (hb6.mono hb05.size)
  have oM6 := ownsMap_later oM5 hb6
  have oN6 := ownsMap_later oN5 hb6
  have oX6 := ownsMap_later oX5 hb6
  have oS6 := ownsMap_later oS5 hb6
  have oE6 := ownsMap_later oE hb6
  clear oM5 oN5 oX5 oS5 oE hb05 hb6
  go_wp2_with fail
  refine (newFW c _ _ _).mono ?_
  rintro e w7 ⟨rfl, hb7, hz7, x0, x1, x2⟩
  have hb07 : Below w.heap.size w w7 := hb06.trans (hb7.mono hb06.size)
  have oM7 := ownsMap_later oM6 hb7
  have oN7 := ownsMap_later oN6 hb7
  have oX7 := ownsMap_later oX6 hb7
  have oS7 := ownsMap_later oS6 hb7
  have oE7 := ownsMap_later oE6 hb7
  have oO7 := ownsMap_later oO hb7
  clear oM6 oN6 oX6 oS6 oE6 oO hb06 hb7
  go_wp2_with fail
  refine (zoverlay c _ _ _ _ n1 n2 n3 _ _ _ _ x0 x1 x2 oM7 oN7 oX7 (by omega) (by omega) (by omega) (by unfold maxLen; omega)).mono ?_
  rintro e w8 ⟨rfl, hg8, D1, oD8, g1⟩
  have G1 : Hid (∀ k, gt D1 k = ov c (fillD K1 (dS V1) n1) (fillD K2 (dB B2) n2) (fillD K3 (dS V3) n3) k) := g1
  have hs8 := hg8.size
  have hb08 : Below w.heap.size w w8 := Below.turn hb07 hg8 (by omega) (by omega)
  have oS8 := World.ownsMap.kept oS7 hg8 (fun e => by have := Option.some.inj e; omega)
  have oE8 := World.ownsMap.kept oE7 hg8 (fun e => by have := Option.some.inj e; omega)
  have oO8 := World.ownsMap.kept oO7 hg8 (fun e => by have := Option.some.inj e; omega)
  clear oM7 oN7 oX7 oS7 oE7 oO7 x0 x1 x2 hg8 hb07 g1
  have F8 : Four w8 w3.heap.size w4.heap.size w5.heap.size w2.heap.size n1 n2 n3 (n3 + n1) (fillD K1 (dS V1) n1) (fillD K2 (dB B2) n2) (fillD K3 (dS V3) n3) D1 := ⟨oS8, oE8, oO8, oD8⟩
  have HC : Hid (Maps.Canon D1) := World.ownsMap.canon oD8 law
  clear oS8 oE8 oO8 oD8
  go_wp2_with fail
  go_loopw [17, 18] (fun x i wr => ∃ (k : Nat) (L : List Lit) (y : Int), k ≤ n1 ∧ i = .int .i64 k ∧ x = .int .i64 y ∧ Seen wr w8.heap.size (k) (keepF c n1 n2 n3 K1 K2 K3 V1 V3 B2) L y ∧ Four wr w3.heap.size w4.heap.size w5.heap.size w2.heap.size n1 n2 n3 (n3 + n1) (fillD K1 (dS V1) n1) (fillD K2 (dB B2) n2) (fillD K3 (dS V3) n3) D1 ∧ Below w.heap.size w wr ∧ Hid (∀ j, j < k → kl (K1 j) ∈ L)) (fun _ i _ => n1 - (intOf i).toNat)
  case atStart => exact ⟨0, [], 0, Nat.zero_le _, rfl, rfl, seen_start _ _, ⟨F8.s.alloc _, F8.e.alloc _, F8.o.alloc _, F8.w.alloc _⟩, hb08.alloc hb08.size _, fun j hj => absurd hj (Nat.not_lt_zero _)⟩
  case round =>
    obtain ⟨k, L, y, hk, rfl, rfl, hseen, hfour, hbel, hinN⟩ := hrel
    have hbd := hseen.bd
    by_cases hlt : k < n1
    · obtain ⟨b, off, rfl, ca, cb, hsz⟩ := (p1.later hbel).at hlt
      by_cases hin : kl (K1 k) ∈ L
      · have l1 := hseen.yes hsz hin
        have HN : Hid (∀ j, j < k + 1 → kl (K1 j) ∈ L) := in_same hinN.out hin
        clear hin
        go_wp2
        go_roundw
        case rel => exact ⟨k + 1, L, y, by omega, by go_num, rfl, hseen.mono (by omega), hfour, hbel, HN⟩
        case measure => simp [intOf]; omega
      · have l1 := hseen.no hsz hin
        obtain ⟨w9, hupd, hturn, hseen9⟩ := hseen.add hsz hin (by unfold maxLen; omega)
        have hfour9 := hfour.turned hturn (by omega) (by omega) (by omega) (by omega)
        have hbel9 : Below w.heap.size w w9 := Below.turn hbel hturn.grown hbel.size (by omega)
        have HN : Hid (∀ j, j < k + 1 → kl (K1 j) ∈ L ++ [kl (K1 k)]) := in_snoc hinN.out rfl
        have HA : Hid (Calls Trym.prog 11 #[.bool c, .map (some w3.heap.size), .map (some w4.heap.size), .map (some w5.heap.size), .map (some w2.heap.size), .string (K1 k)] w9 fun e w' => e = .returned (.tuple #[.bool true, .bool (keepF c n1 n2 n3 K1 K2 K3 V1 V3 B2 (kl (K1 k)))]) ∧ w' = w9) := agrees c _ _ _ _ _ _ _ _ _ _ _ _ (K1 k) w9 hfour9.s hfour9.e hfour9.o hfour9.w hsz (G1.out _)
        clear hin hturn
        cases hkp : keepF c n1 n2 n3 K1 K2 K3 V1 V3 B2 (kl (K1 k))
        · rw [hkp] at HA hseen9
          clear hkp
          simp only [Bool.false_eq_true, if_false, Int.add_zero] at hseen9
          go_wp2_with (go_at_call 11; refine HA.out.mono ?_; rintro e w' ⟨rfl, rfl⟩)
          go_roundw
          case rel => exact ⟨k + 1, _, _, by omega, by go_num, rfl, hseen9.mono (by omega), hfour9, hbel9, HN⟩
          case measure => simp [intOf]; omega
        · rw [hkp] at HA hseen9
          clear hkp
          simp only [if_true] at hseen9
          go_wp2_with (go_at_call 11; refine HA.out.mono ?_; rintro e w' ⟨rfl, rfl⟩)
          go_roundw
          case rel => exact ⟨k + 1, _, _, by omega, by go_num, rfl, hseen9.mono (by omega), hfour9, hbel9, HN⟩
          case measure => simp [intOf]; omega
    · obtain rfl : n1 = k := by omega
      have hinF : Hid (∀ j, j < n1 → kl (K1 j) ∈ L) := hinN
      go_wp2_with fail
      go_loopw [17, 22] (fun x i wr => ∃ (k : Nat) (L : List Lit) (y : Int), k ≤ n2 ∧ i = .int .i64 k ∧ x = .int .i64 y ∧ Seen wr w8.heap.size (n1 + k) (keepF c n1 n2 n3 K1 K2 K3 V1 V3 B2) L y ∧ Four wr w3.heap.size w4.heap.size w5.heap.size w2.heap.size n1 n2 n3 (n3 + n1) (fillD K1 (dS V1) n1) (fillD K2 (dB B2) n2) (fillD K3 (dS V3) n3) D1 ∧ Below w.heap.size w wr ∧ Hid (∀ j, j < n1 → kl (K1 j) ∈ L) ∧ Hid (∀ j, j < k → kl (K2 j) ∈ L)) (fun _ i _ => n2 - (intOf i).toNat)
      case atStart => exact ⟨0, L, y, Nat.zero_le _, rfl, rfl, hseen.mono (by omega), hfour, hbel, hinF, fun j hj => absurd hj (Nat.not_lt_zero _)⟩
      case round =>
        obtain ⟨k, L, y, hk, rfl, rfl, hseen, hfour, hbel, hin0, hinN⟩ := hrel
        have hbd := hseen.bd
        by_cases hlt : k < n2
        · obtain ⟨b, off, rfl, ca, cb, hsz⟩ := (p2.later hbel).at hlt
          by_cases hin : kl (K2 k) ∈ L
          · have l1 := hseen.yes hsz hin
            have HN : Hid (∀ j, j < k + 1 → kl (K2 j) ∈ L) := in_same hinN.out hin
            clear hin
            go_wp2
            go_roundw
            case rel => exact ⟨k + 1, L, y, by omega, by go_num, rfl, hseen.mono (by omega), hfour, hbel, hin0, HN⟩
            case measure => simp [intOf]; omega
          · have l1 := hseen.no hsz hin
            obtain ⟨w9, hupd, hturn, hseen9⟩ := hseen.add hsz hin (by unfold maxLen; omega)
            have hfour9 := hfour.turned hturn (by omega) (by omega) (by omega) (by omega)
            have hbel9 : Below w.heap.size w w9 := Below.turn hbel hturn.grown hbel.size (by omega)
            have HN : Hid (∀ j, j < k + 1 → kl (K2 j) ∈ L ++ [kl (K2 k)]) := in_snoc hinN.out rfl
            have HA : Hid (Calls Trym.prog 11 #[.bool c, .map (some w3.heap.size), .map (some w4.heap.size), .map (some w5.heap.size), .map (some w2.heap.size), .string (K2 k)] w9 fun e w' => e = .returned (.tuple #[.bool true, .bool (keepF c n1 n2 n3 K1 K2 K3 V1 V3 B2 (kl (K2 k)))]) ∧ w' = w9) := agrees c _ _ _ _ _ _ _ _ _ _ _ _ (K2 k) w9 hfour9.s hfour9.e hfour9.o hfour9.w hsz (G1.out _)
            clear hin hturn
            cases hkp : keepF c n1 n2 n3 K1 K2 K3 V1 V3 B2 (kl (K2 k))
            · rw [hkp] at HA hseen9
              clear hkp
              simp only [Bool.false_eq_true, if_false, Int.add_zero] at hseen9
              go_wp2_with (go_at_call 11; refine HA.out.mono ?_; rintro e w' ⟨rfl, rfl⟩)
              go_roundw
              case rel => exact ⟨k + 1, _, _, by omega, by go_num, rfl, hseen9.mono (by omega), hfour9, hbel9, in_more hin0.out, HN⟩
              case measure => simp [intOf]; omega
            · rw [hkp] at HA hseen9
              clear hkp
              simp only [if_true] at hseen9
              go_wp2_with (go_at_call 11; refine HA.out.mono ?_; rintro e w' ⟨rfl, rfl⟩)
              go_roundw
              case rel => exact ⟨k + 1, _, _, by omega, by go_num, rfl, hseen9.mono (by omega), hfour9, hbel9, in_more hin0.out, HN⟩
              case measure => simp [intOf]; omega
        · obtain rfl : n2 = k := by omega
          have hinF : Hid (∀ j, j < n2 → kl (K2 j) ∈ L) := hinN
          go_wp2_with fail
          go_loopw [17, 26] (fun x i wr => ∃ (k : Nat) (L : List Lit) (y : Int), k ≤ n3 ∧ i = .int .i64 k ∧ x = .int .i64 y ∧ Seen wr w8.heap.size (n1 + n2 + k) (keepF c n1 n2 n3 K1 K2 K3 V1 V3 B2) L y ∧ Four wr w3.heap.size w4.heap.size w5.heap.size w2.heap.size n1 n2 n3 (n3 + n1) (fillD K1 (dS V1) n1) (fillD K2 (dB B2) n2) (fillD K3 (dS V3) n3) D1 ∧ Below w.heap.size w wr ∧ Hid (∀ j, j < n1 → kl (K1 j) ∈ L) ∧ Hid (∀ j, j < n2 → kl (K2 j) ∈ L) ∧ Hid (∀ j, j < k → kl (K3 j) ∈ L)) (fun _ i _ => n3 - (intOf i).toNat)
          case atStart => exact ⟨0, L, y, Nat.zero_le _, rfl, rfl, hseen.mono (by omega), hfour, hbel, hin0, hinF, fun j hj => absurd hj (Nat.not_lt_zero _)⟩
          case round =>
            obtain ⟨k, L, y, hk, rfl, rfl, hseen, hfour, hbel, hin0, hin1, hinN⟩ := hrel
            have hbd := hseen.bd
            by_cases hlt : k < n3
            · obtain ⟨b, off, rfl, ca, cb, hsz⟩ := (p3.later hbel).at hlt
              by_cases hin : kl (K3 k) ∈ L
              · have l1 := hseen.yes hsz hin
                have HN : Hid (∀ j, j < k + 1 → kl (K3 j) ∈ L) := in_same hinN.out hin
                clear hin
                go_wp2
                go_roundw
                case rel => exact ⟨k + 1, L, y, by omega, by go_num, rfl, hseen.mono (by omega), hfour, hbel, hin0, hin1, HN⟩
                case measure => simp [intOf]; omega
              · have l1 := hseen.no hsz hin
                obtain ⟨w9, hupd, hturn, hseen9⟩ := hseen.add hsz hin (by unfold maxLen; omega)
                have hfour9 := hfour.turned hturn (by omega) (by omega) (by omega) (by omega)
                have hbel9 : Below w.heap.size w w9 := Below.turn hbel hturn.grown hbel.size (by omega)
                have HN : Hid (∀ j, j < k + 1 → kl (K3 j) ∈ L ++ [kl (K3 k)]) := in_snoc hinN.out rfl
                have HA : Hid (Calls Trym.prog 11 #[.bool c, .map (some w3.heap.size), .map (some w4.heap.size), .map (some w5.heap.size), .map (some w2.heap.size), .string (K3 k)] w9 fun e w' => e = .returned (.tuple #[.bool true, .bool (keepF c n1 n2 n3 K1 K2 K3 V1 V3 B2 (kl (K3 k)))]) ∧ w' = w9) := agrees c _ _ _ _ _ _ _ _ _ _ _ _ (K3 k) w9 hfour9.s hfour9.e hfour9.o hfour9.w hsz (G1.out _)
                clear hin hturn
                cases hkp : keepF c n1 n2 n3 K1 K2 K3 V1 V3 B2 (kl (K3 k))
                · rw [hkp] at HA hseen9
                  clear hkp
                  simp only [Bool.false_eq_true, if_false, Int.add_zero] at hseen9
                  go_wp2_with (go_at_call 11; refine HA.out.mono ?_; rintro e w' ⟨rfl, rfl⟩)
                  go_roundw
                  case rel => exact ⟨k + 1, _, _, by omega, by go_num, rfl, hseen9.mono (by omega), hfour9, hbel9, in_more hin0.out, in_more hin1.out, HN⟩
                  case measure => simp [intOf]; omega
                · rw [hkp] at HA hseen9
                  clear hkp
                  simp only [if_true] at hseen9
                  go_wp2_with (go_at_call 11; refine HA.out.mono ?_; rintro e w' ⟨rfl, rfl⟩)
                  go_roundw
                  case rel => exact ⟨k + 1, _, _, by omega, by go_num, rfl, hseen9.mono (by omega), hfour9, hbel9, in_more hin0.out, in_more hin1.out, HN⟩
                  case measure => simp [intOf]; omega
            · obtain rfl : n3 = k := by omega
              have hinF : Hid (∀ j, j < n3 → kl (K3 j) ∈ L) := hinN
              have hcnt := size_count HC.out G1.out hseen.nodup (fun k hk => by rcases kept_in hk with ⟨i, hi, rfl⟩ | ⟨i, hi, rfl⟩; exact hin0.out i hi; exact hinF.out i hi)
              have hy : (Maps.size D1 : Int) = y := hcnt.trans hseen.count.symm
              subst hy
              go_wp2_with (first | (at_len; refine wpList_len_own _ rfl _ 26 rfl 9 9 Trym.underlying26 _ _ _ _ rfl hfour.w ?_))
              go_ret
              exact ⟨by simp, hbel⟩
end Go.Proofs.Qxb6612669aMods
