import Derived.Test.Qxb6612669aModsLook
import Derived.Test.Qxb6612669aModsBig
namespace Go.Proofs.Qxb6612669aMods
open Go.RowKit

theorem ov_set {c : Bool} {S E D : DataW Unit} {k : Lit} (h : (gt S k).isSome = true) : ov c S E D k = gt S k := by
  unfold ov
  cases hg : gt S k
  · rw [hg] at h; cases h
  · rfl

set_option maxHeartbeats 1000000 in
theorem idem (c : Bool) (a1 a2 a3 : Option Addr) (n1 n2 n3 c1 c2 c3 : Nat) (K1 K2 K3 V1 V3 : Nat → ByteArray) (B2 : Nat → Bool) (w : World)
    (p1 : Pr w a1 n1 K1 (fun i => .string (V1 i))) (p2 : Pr w a2 n2 K2 (fun i => .bool (B2 i))) (p3 : Pr w a3 n3 K3 (fun i => .string (V3 i))) :
    Calls Trym.prog 4 #[.bool c, .slice a1 n1 c1, .slice a2 n2 c2, .slice a3 n3 c3] w fun e w' => e = .returned (.bool true) ∧ Below w.heap.size w w' := by
  have r1 := p1.reach
  have r2 := p2.reach
  have r3 := p3.reach
  go_enter Trym.func4, Trym.ntmps4
  go_wp2_with fail
  refine (bytes12 c a1 a2 a3 n1 n2 n3 c1 c2 c3 K1 K2 K3 V1 V3 B2 _ p1 p2 p3).mono ?_
  rintro e w' ⟨⟨r, rfl⟩, rfl⟩
  cases r
  · go_wp2_with fail
    go_ret; exact ⟨rfl, Below.refl _ _⟩
  go_wp2_with fail
  refine (tooBig a1 a2 a3 n1 n2 n3 c1 c2 c3 K1 K2 K3 V1 V3 B2 _ p1 p2 p3).mono ?_
  rintro e w ⟨⟨r, rfl⟩, rfl⟩
  cases r
  case true =>
    go_wp2_with fail
    go_ret; exact ⟨rfl, Below.refl _ _⟩
  go_wp2_with fail
  refine (kvMap a1 n1 c1 K1 V1 _ p1).mono ?_
  rintro e w1 ⟨rfl, oS, hb1⟩
  have hz1 := World.ownsMap.lt oS
  go_wp2_with fail
  refine (kbMap a2 n2 c2 K2 B2 _ (p2.later hb1)).mono ?_
  rintro e w2 ⟨rfl, oE, hb2⟩
  have hz2 := World.ownsMap.lt oE
  have hb02 : Below w.heap.size w w2 := hb1.trans (hb2.mono hb1.size)
  have oS2 := ownsMap_later oS hb2
  clear oS hb1 hb2
  go_wp2_with fail
  refine (kvMap a1 n1 c1 K1 V1 _ (p1.later hb02)).mono ?_
  rintro e w3 ⟨rfl, oW, hb3⟩
  have hz3 := World.ownsMap.lt oW
  have hb03 : Below w.heap.size w w3 := hb02.trans (hb3.mono hb02.size)
  have oS3 := ownsMap_later oS2 hb3
  have oE3 := ownsMap_later oE hb3
  clear oS2 oE hb02 hb3
  go_wp2_with fail
  refine (newFW c _ _ _).mono ?_
  rintro e w4 ⟨rfl, hb4, hz4, x0, x1, x2⟩
  have hb04 : Below w.heap.size w w4 := hb03.trans (hb4.mono hb03.size)
  have oS4 := ownsMap_later oS3 hb4
  have oE4 := ownsMap_later oE3 hb4
  have oW4 := ownsMap_later oW hb4
  clear oS3 oE3 oW hb03 hb4
  go_wp2_with fail
  refine (kvMap a3 n3 c3 K3 V3 _ (p3.later hb04)).mono ?_
  rintro e w5 ⟨rfl, oO, hb5⟩
  have hz5 := World.ownsMap.lt oO
  have hb05 : Below w.heap.size w w5 := hb04.trans (hb5.mono hb04.size)
  have oS5 := ownsMap_later oS4 hb5
  have oE5 := ownsMap_later oE4 hb5
  have oW5 := ownsMap_later oW4 hb5
  have y0 := (hb5.cell (p := ⟨w3.heap.size, 0, none⟩) hz4).trans x0
  have y1 := (hb5.cell (p := ⟨w3.heap.size, 1, none⟩) hz4).trans x1
  have y2 := (hb5.cell (p := ⟨w3.heap.size, 2, none⟩) hz4).trans x2
  clear oS4 oE4 oW4 x0 x1 x2 hb5 hb04
  go_wp2_with fail
  refine (zoverlay c _ _ _ _ n1 n2 n3 _ _ _ _ y0 y1 y2 oS5 oE5 oO (by omega) (by omega) (by omega) (by unfold maxLen; omega)).mono ?_
  rintro e w6 ⟨rfl, hg6, D1, oD1, g1⟩
  have G1 : Hid (∀ k, gt D1 k = ov c (fillD K1 (dS V1) n1) (fillD K2 (dB B2) n2) (fillD K3 (dS V3) n3) k) := g1
  have hs6 := hg6.size
  have hb06 : Below w.heap.size w w6 := Below.turn hb05 hg6 (by omega) (by omega)
  have oS6 := World.ownsMap.kept oS5 hg6 (fun e => by have := Option.some.inj e; omega)
  have oE6 := World.ownsMap.kept oE5 hg6 (fun e => by have := Option.some.inj e; omega)
  have oW6 := World.ownsMap.kept oW5 hg6 (fun e => by have := Option.some.inj e; omega)
  have x0 := hg6.cell y0 (fun e => by have := Option.some.inj e; simp at this; omega)
  have x1 := hg6.cell y1 (fun e => by have := Option.some.inj e; simp at this; omega)
  have x2 := hg6.cell y2 (fun e => by have := Option.some.inj e; simp at this; omega)
  clear oS5 oE5 oW5 oO y0 y1 y2 hg6 hb05 g1
  go_wp2_with fail
  refine (kvMap a3 n3 c3 K3 V3 _ (p3.later hb06)).mono ?_
  rintro e w7 ⟨rfl, oO, hb7⟩
  have hz7 := World.ownsMap.lt oO
  have hb07 : Below w.heap.size w w7 := hb06.trans (hb7.mono hb06.size)
  have oS7 := ownsMap_later oS6 hb7
  have oE7 := ownsMap_later oE6 hb7
  have oW7 := ownsMap_later oW6 hb7
  have oD17 := ownsMap_later oD1 hb7
  have y0 := (hb7.cell (p := ⟨w3.heap.size, 0, none⟩) (by simp; omega)).trans x0
  have y1 := (hb7.cell (p := ⟨w3.heap.size, 1, none⟩) (by simp; omega)).trans x1
  have y2 := (hb7.cell (p := ⟨w3.heap.size, 2, none⟩) (by simp; omega)).trans x2
  clear oS6 oE6 oW6 oD1 x0 x1 x2 hb7 hb06
  go_wp2_with fail
  refine (zoverlay c _ _ _ _ n1 n2 n3 _ _ _ _ y0 y1 y2 oS7 oE7 oO (by omega) (by omega) (by omega) (by unfold maxLen; omega)).mono ?_
  rintro e w8 ⟨rfl, hg8, D2, oD2, g2⟩
  have G2 : Hid (∀ k, gt D2 k = ov c (fillD K1 (dS V1) n1) (fillD K2 (dB B2) n2) (fillD K3 (dS V3) n3) k) := g2
  have hs8 := hg8.size
  have hb08 : Below w.heap.size w w8 := Below.turn hb07 hg8 (by omega) (by omega)
  have oS8 := World.ownsMap.kept oS7 hg8 (fun e => by have := Option.some.inj e; omega)
  have oE8 := World.ownsMap.kept oE7 hg8 (fun e => by have := Option.some.inj e; omega)
  have oW8 := World.ownsMap.kept oW7 hg8 (fun e => by have := Option.some.inj e; omega)
  have oD18 := World.ownsMap.kept oD17 hg8 (fun e => by have := Option.some.inj e; omega)
  have x0 := hg8.cell y0 (fun e => by have := Option.some.inj e; simp at this; omega)
  have x1 := hg8.cell y1 (fun e => by have := Option.some.inj e; simp at this; omega)
  have x2 := hg8.cell y2 (fun e => by have := Option.some.inj e; simp at this; omega)
  clear oS7 oE7 oW7 oD17 oO y0 y1 y2 hg8 hb07 g2
  go_wp2_with fail
  refine (zoverlay c _ _ _ _ n1 n2 (n3 + n1) _ _ _ _ x0 x1 x2 oS8 oE8 oD2 (by omega) (by omega) (by omega) (by unfold maxLen; omega)).mono ?_
  rintro e w9 ⟨rfl, hg9, D3, oD3, g3⟩
  have hs9 := hg9.size
  have hb09 : Below w.heap.size w w9 := Below.turn hb08 hg9 (by omega) (by omega)
  have oW9 := World.ownsMap.kept oW8 hg9 (fun e => by have := Option.some.inj e; omega)
  have oD19 := World.ownsMap.kept oD18 hg9 (fun e => by have := Option.some.inj e; omega)
  have G3 : ∀ k, gt D3 k = gt D1 k := fun k => (ov_twice G2.out g3 k).trans (G1.out k).symm
  have hDD : D3 = D1 := gt_ext (World.ownsMap.canon oD3 law) (World.ownsMap.canon oD19 law) G3
  subst hDD
  clear oS8 oE8 oW8 oD18 oD2 x0 x1 x2 hg9 hb08 g3 G2 G3
  have q1 := p1.later hb09
  have q3 := p3.later hb09
  clear p1 p2 p3
  go_wp2_with fail
  go_loop [15] (fun i => ∃ k : Nat, k ≤ n1 ∧ i = .int .i64 k) (fun i => n1 - (intOf i).toNat)
  case atStart => exact ⟨0, Nat.zero_le _, rfl⟩
  case round =>
    obtain ⟨k, hk, rfl⟩ := hrel
    by_cases hlt : k < n1
    · obtain ⟨b, off, rfl, ca, cb, hsz⟩ := q1.at hlt
      have hS : (gt (fillD K1 (dS V1) n1) (kl (K1 k))).isSome = true := fillD_has K1 (dS V1) n1 k hlt
      have l1 := look_S oD19 hsz
      have l2 := look_S0 oW9 hsz
      rw [G1.out, ov_set hS, hS] at l1
      clear hS
      generalize byt (gt (fillD K1 (dS V1) n1) (kl (K1 k))) = by1 at l1 l2
      go_wp2
      go_round
      case rel => exact ⟨k + 1, by omega, by go_num⟩
      case measure => simp [intOf]; omega
    · go_wp2_with (first | (at_len; refine wpList_len_own _ rfl _ 26 rfl 9 9 Trym.underlying26 _ _ _ _ rfl oD19 ?_) | (at_len; refine wpList_len_own _ rfl _ 26 rfl 9 9 Trym.underlying26 _ _ _ _ rfl oD3 ?_))
      go_loop [19] (fun i => ∃ k : Nat, k ≤ n1 ∧ i = .int .i64 k) (fun i => n1 - (intOf i).toNat)
      case atStart => exact ⟨0, Nat.zero_le _, rfl⟩
      case round =>
        obtain ⟨k, hk, rfl⟩ := hrel
        by_cases hlt : k < n1
        · obtain ⟨b, off, rfl, ca, cb, hsz⟩ := q1.at hlt
          go_wp2_with (go_at_call 13; refine (sameF _ _ _ _ _ _ _ _ oD19 oD3 hsz rfl).mono ?_; rintro e w' ⟨rfl, rfl⟩)
          go_round
          case rel => exact ⟨k + 1, by omega, by go_num⟩
          case measure => simp [intOf]; omega
        · go_wp2_with fail
          go_loop [20] (fun i => ∃ k : Nat, k ≤ n3 ∧ i = .int .i64 k) (fun i => n3 - (intOf i).toNat)
          case atStart => exact ⟨0, Nat.zero_le _, rfl⟩
          case round =>
            obtain ⟨k, hk, rfl⟩ := hrel
            by_cases hlt : k < n3
            · obtain ⟨b, off, rfl, ca, cb, hsz⟩ := q3.at hlt
              go_wp2_with (go_at_call 13; refine (sameF _ _ _ _ _ _ _ _ oD19 oD3 hsz rfl).mono ?_; rintro e w' ⟨rfl, rfl⟩)
              go_round
              case rel => exact ⟨k + 1, by omega, by go_num⟩
              case measure => simp [intOf]; omega
            · go_wp2_with fail
              go_ret
              exact ⟨rfl, hb09⟩
end Go.Proofs.Qxb6612669aMods
