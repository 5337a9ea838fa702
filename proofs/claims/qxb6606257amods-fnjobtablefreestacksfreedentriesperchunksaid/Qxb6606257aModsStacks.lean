import Derived.Test.Qxb6606257aModsEntry
namespace Go.Proofs.Qxb6606257aMods
open Go.RowKit

theorem chain_before {s : St} {N : Nat → Nat} {c : Nat} : ∀ {m n : Nat}, m ≤ n → Chain s (lst N c n) → Chain s (lst N c m)
  | m, 0, h, hc => by
    have : m = 0 := by omega
    subst this; exact hc
  | m, n + 1, h, hc => by
    by_cases e : m = n + 1
    · subst e; exact hc
    · refine chain_before (m := m) (n := n) (by omega) ?_
      rw [lst_succ] at hc
      split at hc
      · exact hc.2.2
      · exact hc

theorem len_mono {N : Nat → Nat} {c : Nat} : ∀ {m n : Nat}, m ≤ n → (lst N c m).length ≤ (lst N c n).length
  | m, 0, h => by
    have : m = 0 := by omega
    subst this; exact Nat.le_refl _
  | m, n + 1, h => by
    by_cases e : m = n + 1
    · subst e; exact Nat.le_refl _
    · have := len_mono (N := N) (c := c) (m := m) (n := n) (by omega)
      rw [lst_succ]
      split
      · simp; omega
      · exact this

theorem kIntact {w : World} {B bt bc cap nch i : Nat} {J : Nat → Nat} {room : Int} {N : Nat → Nat} (h : Tab w B bt bc cap nch J (frees nch room N i)) {k : Nat} (hk : k < nch * 4096) (hin : inTo N i k = false) :
    Hid (Calls Trym.prog 25 #[.pointer (some ⟨bt, 0, none⟩), .int .u32 k] w fun e w' => e = .returned (.bool true) ∧ w' = w) := intact h k hk (fun f => frees_intact k f hk i hin)

theorem kCleared {w : World} {B bt bc cap nch i : Nat} {J : Nat → Nat} {room : Int} {N : Nat → Nat} (h : Tab w B bt bc cap nch J (frees nch room N i)) {k : Nat} (hk : k < nch * 4096) (hin : inTo N i k = true) :
    Hid (Calls Trym.prog 24 #[.pointer (some ⟨bt, 0, none⟩), .int .u32 k] w fun e w' => e = .returned (.bool true) ∧ w' = w) := cleared h k hk (fun f hf => frees_blank k f hf i hin)

set_option maxRecDepth 100000 in
set_option maxHeartbeats 2000000 in
theorem stacks (a : Option Addr) (len cap0 : Nat) (N : Nat → Nat) (room : Int) (w : World) (hU : Us w a len N) :
    Calls Trym.prog 5 #[.slice a len cap0, .int .i64 room] w fun e w' => e = .returned (.bool true) ∧ Below w.heap.size w w' := by
  obtain ⟨i0, hi, hz0, hz1, hz2⟩ := info_parts Trym.info4
  have hml := hU.le
  unfold maxLen at hml
  by_cases hl : (65536 : Int) < (len : Int)
  · go_enter Trym.func5, Trym.ntmps5
    go_wp2_with fail
    refine (bytes16 a len cap0 room _ hU.le).mono ?_
    rintro e w' ⟨⟨r, rfl⟩, rfl⟩
    cases r
    · go_wp2_with fail
      go_ret; exact ⟨rfl, Below.refl _ _⟩
    · go_wp2_with fail
      go_ret; exact ⟨rfl, Below.refl _ _⟩
  have hlf : decide ((65536 : Int) < (len : Int)) = false := decide_eq_false hl
  go_enter Trym.func5, Trym.ntmps5
  go_wp2_with fail
  refine (bytes16 a len cap0 room _ hU.le).mono ?_
  rintro e w ⟨⟨r, rfl⟩, rfl⟩
  cases r
  · go_wp2_with fail
    go_ret; exact ⟨rfl, Below.refl _ _⟩
  go_wp2_with fail
  refine (premise a len cap0 N room _ hU (by omega)).mono ?_
  rintro e w1 ⟨hp, hb1⟩
  rcases hp with ⟨x, rfl⟩ | ⟨nch, rfl, h1, h2, hN, hD, hr0, hr1⟩
  · go_wp2_with fail
    go_ret; exact ⟨rfl, hb1⟩
  have HN : Hid (∀ i, i < len → N i < nch * 4096) := hN
  have HD : Hid (∀ i j, i < len → j < len → N i = N j → i = j) := hD
  clear hN hD
  go_wp2_with fail
  refine (clone a len cap0 N _ (hU.later hb1) (by omega)).mono ?_
  rintro e w2 ⟨⟨a2, c2, rfl, hU2⟩, hb2⟩
  have hb02 : Below w.heap.size w w2 := hb1.trans (hb2.mono hb1.size)
  clear hU hb1 hb2
  go_wp2_with (first | (at_make; refine wpList_make_full _ rfl _ _ 38 rfl w2.heap.size 4 i0 (.bool false) 1 Trym.underlying38 hi hz0 hz1 _ _ _ _ (nch * 4096) rfl rfl (by omega) (by omega) (by rw [hz2]; omega) (by unfold maxLen; omega) (Nat.le_refl _) ?_; intro w3 hown hgrow))
  have hm0 := marks_start (nch * 4096) N
  generalize (madeCells (Value.bool false).cells (nch * 4096 * 1)).toList = xs0 at hown hm0
  have hb3 : Below w2.heap.size w2 w3 := (Below.refl _ _).grown hgrow (Nat.le_refl _) (fun k hk => by cases hk)
  clear hgrow
  clear hlf
  go_loopw [9] (fun i wr => ∃ (k : Nat) (xs : List Value), k ≤ len ∧ i = .int .i64 k ∧ wr.ownsRow w2.heap.size 4 1 (.slice (some ⟨w2.heap.size, 0, none⟩) (nch * 4096) (nch * 4096)) (nch * 4096) xs ∧ Hid (Marks xs (nch * 4096) N k) ∧ Below w2.heap.size w2 wr) (fun i _ => len - (intOf i).toNat)
  case atStart => exact ⟨0, xs0, Nat.zero_le _, rfl, hown, hm0, hb3⟩
  case round =>
    obtain ⟨k, xs, hk, rfl, hrow, hmk, hbr⟩ := hrel
    clear hown hm0 hb3
    by_cases hlt : k < len
    · obtain ⟨b, off, rfl, hb, ca, hu⟩ := (hU2.later hbr).at hlt
      have hNk := HN.out k hlt
      have hcm : wr.cell? ⟨w2.heap.size, N k, none⟩ = some (.bool (inTo N k (N k))) := by rw [hrow.cellAt (N k) (by omega)]; exact hmk.out.2 _ hNk
      have hfm : wr.frozen? ⟨w2.heap.size, N k, none⟩ = false := hrow.frozenAt (N k)
      have HS : Hid (_ ∧ _) := hrow.stored (N k) (.bool true)
      have HM2 : Hid (Marks (xs.set (N k) (.bool true)) (nch * 4096) N (k + 1)) := marks_step hmk.out hNk
      go_wp2_with fail
      go_roundw
      case rel => exact ⟨k + 1, _, by omega, by go_num, HS.out.1, HM2, hbr.grown HS.out.2 hbr.size (fun j hj => by cases hj; exact Nat.le_refl _)⟩
      case measure => simp [intOf]; omega
    obtain rfl : len = k := by omega
    obtain ⟨w4, rfl⟩ : ∃ x, x = wr := ⟨_, rfl⟩
    have hU4 := hU2.later hbr
    have HM : Hid (∀ e, e < nch * 4096 → w4.cell? ⟨w2.heap.size, e, none⟩ = some (.bool (inTo N len e))) := fun e he => by rw [hrow.cellAt e (by omega)]; exact hmk.out.2 _ he
    have hz4 : w2.heap.size < w4.heap.size := (hrow.lt _ rfl).2
    have hb04 : Below w.heap.size w w4 := hb02.trans (hbr.mono hb02.size)
    clear hrow hmk hbr hU2 hb02
    go_wp2_with fail
    refine (freeTable nch room h1 h2 _).mono ?_
    rintro e w5 ⟨bt, bc, cap, J, rfl, hb5, hT5⟩
    go_wp2_with fail
    go_loopw [11] (fun i wr => ∃ k : Nat, k ≤ len ∧ i = .int .i64 k ∧ Tab wr w4.heap.size bt bc cap nch J (frees nch room N k) ∧ Below w4.heap.size w4 wr) (fun i _ => len - (intOf i).toNat)
    case atStart => exact ⟨0, Nat.zero_le _, rfl, hT5, hb5⟩
    case round =>
      obtain ⟨k, hk, rfl, hT, hbr⟩ := hrel
      clear hT5 hb5
      by_cases hlt : k < len
      · obtain ⟨b, off, rfl, hb, ca4, hu⟩ := hU4.at hlt
        have hNk := HN.out k hlt
        have ca := (hbr.cell (p := ⟨b, off + k, none⟩) hb).trans ca4
        have hfr : 0 ≤ (frees nch room N k).freed (N k / 4096) ∧ (frees nch room N k).freed (N k / 4096) ≤ 65536 := by
          rw [frees_freed]; have := lst_len (N := N) (N k / 4096) k; omega
        have HF : Hid (0 ≤ (frees nch room N k).freed (N k / 4096) ∧ (frees nch room N k).freed (N k / 4096) ≤ 65536) := hfr
        clear hfr
        go_wp2_with fail
        refine (zfree hT (N k) hNk HF.out).mono ?_
        rintro e w6 ⟨rfl, hb6, hT6⟩
        go_wp2_with fail
        go_roundw
        case rel => exact ⟨k + 1, by omega, by go_num, hT6, hbr.trans hb6⟩
        case measure => simp [intOf]; omega
      obtain rfl : len = k := by omega
      obtain ⟨w6, rfl⟩ : ∃ x, x = wr := ⟨_, rfl⟩
      have HM6 : Hid (∀ e, e < nch * 4096 → w6.cell? ⟨w2.heap.size, e, none⟩ = some (.bool (inTo N len e))) := fun e he => (hbr.cell (p := ⟨w2.heap.size, e, none⟩) hz4).trans (HM.out e he)
      have hz6 : w2.heap.size < w6.heap.size := Nat.lt_of_lt_of_le hz4 hbr.size
      have hb06 : Below w.heap.size w w6 := hb04.trans (hbr.mono hb04.size)
      have hU6 : Us w6 a2 len N := hU4.later hbr
      clear HM hz4 hbr hb04 hU4
      have K20 := tabChunks hT
      have K21 : Calls Trym.prog 21 #[.pointer (some ⟨bt, 0, none⟩)] w6 fun e w' => e = .returned (.int .u32 ((nch : Int) * 4096)) ∧ w' = w6 := by have := tabNext hT; rw [frees_next] at this; exact this
      have K22 : Calls Trym.prog 22 #[.pointer (some ⟨bt, 0, none⟩)] w6 fun e w' => e = .returned (.int .i64 ((nch : Int) * 4096)) ∧ w' = w6 := by have := tabHeld hT; rw [frees_held] at this; exact this
      have H20 : Hid (Calls Trym.prog 20 #[.pointer (some ⟨bt, 0, none⟩)] w6 fun e w' => e = .returned (.int .i64 nch) ∧ w' = w6) := K20
      have H21 : Hid (Calls Trym.prog 21 #[.pointer (some ⟨bt, 0, none⟩)] w6 fun e w' => e = .returned (.int .u32 ((nch : Int) * 4096)) ∧ w' = w6) := K21
      have H22 : Hid (Calls Trym.prog 22 #[.pointer (some ⟨bt, 0, none⟩)] w6 fun e w' => e = .returned (.int .i64 ((nch : Int) * 4096)) ∧ w' = w6) := K22
      clear K20 K21 K22
      go_wp2_with fail
      refine H20.out.mono ?_
      rintro e w6 ⟨rfl, rfl⟩
      go_wp2_with fail
      refine H21.out.mono ?_
      rintro e w6 ⟨rfl, rfl⟩
      go_wp2_with fail
      refine H22.out.mono ?_
      rintro e w6 ⟨rfl, rfl⟩
      clear H20 H21 H22
      go_wp2_with fail
      go_loop [12, 13] (fun x i => ∃ k : Nat, k ≤ len ∧ i = .int .i64 k ∧ x = .int .i64 (roomTo room N k)) (fun _ i => len - (intOf i).toNat)
      case atStart => exact ⟨0, Nat.zero_le _, rfl, rfl⟩
      case round =>
        obtain ⟨k, hk, rfl, rfl⟩ := hrel
        by_cases hlt : k < len
        · obtain ⟨b, off, rfl, hb, ca, hu⟩ := hU6.at hlt
          have hNk := HN.out k hlt
          have HR : Hid (roomTo room N (k + 1) = min (roomTo room N k) ((N k : Int) / 4096)) := rfl
          by_cases hr : (N k : Int) / 4096 < roomTo room N k
          · go_wp2_with fail
            go_round
            case rel => exact ⟨k + 1, by omega, by go_num, by rw [HR.out]; go_num⟩
            case measure => simp [intOf]; omega
          · go_wp2_with fail
            go_round
            case rel => exact ⟨k + 1, by omega, by go_num, by rw [HR.out]; go_num⟩
            case measure => simp [intOf]; omega
        obtain rfl : len = k := by omega
        go_wp2_with fail
        refine (k23 hT).mono ?_
        rintro e w6 ⟨rfl, rfl⟩
        go_wp2_with fail
        go_loop [15] (fun i => ∃ k : Nat, k ≤ nch * 4096 ∧ i = .int .i64 k) (fun i => nch * 4096 - (intOf i).toNat)
        case atStart => exact ⟨0, Nat.zero_le _, rfl⟩
        case round =>
          obtain ⟨k, hk, rfl⟩ := hrel
          by_cases hlt : k < nch * 4096
          · have hcm := HM6.out k hlt
            have hki : (k : Int) < (nch : Int) * 4096 := by omega
            cases hin : inTo N len k
            · have HI := kIntact hT hlt hin
              rw [hin] at hcm
              clear hin
              go_wp2_with fail
              refine HI.out.mono ?_
              rintro e w6 ⟨rfl, rfl⟩
              go_wp2_with fail
              go_round
              case rel => exact ⟨k + 1, by omega, by go_num⟩
              case measure => simp [intOf]; omega
            · have HI := kCleared hT hlt hin
              rw [hin] at hcm
              clear hin
              go_wp2_with fail
              refine HI.out.mono ?_
              rintro e w6 ⟨rfl, rfl⟩
              go_wp2_with fail
              go_round
              case rel => exact ⟨k + 1, by omega, by go_num⟩
              case measure => simp [intOf]; omega
          · go_wp2_with fail
            go_loop [17] (fun i => ∃ c : Nat, c ≤ nch ∧ i = .int .i64 c) (fun i => nch - (intOf i).toNat)
            case atStart => exact ⟨0, Nat.zero_le _, rfl⟩
            case round =>
              obtain ⟨c, hc, rfl⟩ := hrel
              by_cases hcn : c < nch
              · have KF := kFirst hT hcn
                have K28 := k28 hT hcn
                have HCH : Hid (Chain (frees nch room N len) (lst N c len)) := frees_chain c len HD.out
                go_wp2_with fail
                refine KF.out.mono ?_
                rintro e w6 ⟨rfl, rfl⟩
                go_wp2_with fail
                have hll := lst_len (N := N) c len
                generalize hL : (lst N c len).length = L at hll K28 ⊢
                have HL : Hid ((lst N c len).length = L) := hL
                clear hL
                go_loop [18, 19, 20] (fun x y i => ∃ (m z : Nat) (q ct : Int), m ≤ len ∧ i = .int .i64 q ∧ q + 1 ≤ (m : Int) ∧ (m : Int) ≤ q + 1 ∧ y = .int .u32 z ∧ Hid (z = (lst N c m).headD 0) ∧ x = .int .i64 ct ∧ 0 ≤ ct ∧ ct ≤ L ∧ Hid (ct + ((lst N c m).length : Int) = L)) (fun _ _ i => (intOf i + 1).toNat)
                case atStart => exact ⟨len, _, _, _, Nat.le_refl _, rfl, by omega, by omega, rfl, (by simp [Hid]), rfl, by omega, by omega, (by have := HL.out; unfold Hid; omega)⟩
                case round =>
                  obtain ⟨m, z, q, ct, hm, rfl, hq1, hq2, rfl, HZ, rfl, hct0, hct1, HC⟩ := hrel
                  cases m with
                  | zero =>
                    obtain rfl : q = -1 := by omega
                    obtain rfl : z = 0 := HZ.out
                    have hcl : ct = (L : Int) := by have := HC.out; simp [lst] at this; exact this
                    subst hcl
                    clear HZ HC HCH
                    go_wp2_with fail
                    refine K28.out.mono ?_
                    rintro e w6 ⟨rfl, rfl⟩
                    go_wp2_with fail
                    go_round
                    case rel => exact ⟨c + 1, by omega, by go_num⟩
                    case measure => simp [intOf]; omega
                  | succ j =>
                    obtain rfl : q = (j : Int) := by omega
                    obtain ⟨b, off, rfl, hb, ca, hu⟩ := hU6.at (k := j) (by omega)
                    have hNj := HN.out j (by omega)
                    have hls := lst_succ (N := N) c j
                    by_cases hcj : N j / 4096 = c
                    · rw [if_pos hcj] at hls
                      have hz := HZ.out
                      rw [hls] at hz
                      obtain rfl : z = N j := hz
                      have hch := chain_before (m := j + 1) (by omega) HCH.out
                      rw [hls] at hch
                      have KI := kIndex hT hNj hch.1
                      have HC2 : Hid (ct + 1 + ((lst N c j).length : Int) = L) := by have := HC.out; rw [hls] at this; simp at this; unfold Hid; omega
                      have hc1 : (N j : Int) / 4096 ≤ (c : Int) := by omega
                      have hc2 : (c : Int) ≤ (N j : Int) / 4096 := by omega
                      have hcb : ct + 1 ≤ L := by have := HC2.out; omega
                      clear hls hch HC HZ hcj
                      go_wp2_with fail
                      refine KI.out.mono ?_
                      rintro e w6 ⟨rfl, rfl⟩
                      go_wp2_with fail
                      go_round
                      case rel => exact ⟨j, _, _, _, by omega, rfl, by omega, by omega, rfl, (by simp [Hid]), rfl, by omega, by omega, HC2⟩
                      case measure => simp [intOf]
                    · rw [if_neg hcj] at hls
                      have HZ2 : Hid (z = (lst N c j).headD 0) := by have := HZ.out; rw [hls] at this; exact this
                      have HC2 : Hid (ct + ((lst N c j).length : Int) = L) := by have := HC.out; rw [hls] at this; exact this
                      have hne : ((N j : Int) / 4096 != (c : Int)) = true := by rw [bne_iff_ne]; omega
                      clear hls HC HZ
                      go_wp2_with fail
                      go_round
                      case rel => exact ⟨j, _, _, _, by omega, rfl, by omega, by omega, rfl, HZ2, rfl, by omega, by omega, HC2⟩
                      case measure => simp [intOf]
              · go_wp2_with fail
                go_ret
                exact ⟨rfl, hb06⟩
end Go.Proofs.Qxb6606257aMods
