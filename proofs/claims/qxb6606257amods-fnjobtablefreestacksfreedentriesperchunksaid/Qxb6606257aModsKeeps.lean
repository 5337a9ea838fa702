import Derived.Test.Qxb6606257aModsPlain
import Derived.Test.Qxb6606257aModsClone
namespace Go.Proofs.Qxb6606257aMods
open Go.RowKit

theorem Tab.later {w w' : World} {B bt bc cap nch : Nat} {J : Nat → Nat} {s : St} (h : Tab w B bt bc cap nch J s) (h1 : 1 ≤ nch) (hb : Below w.heap.size w w') : Tab w' B bt bc cap nch J s := by
  have lt : bt < w.heap.size := World.block_lt_of_cell? w _ h.t0
  have lc : bc < w.heap.size := World.block_lt_of_cell? w _ (h.c0 0 (by omega))
  have lj : ∀ k, k < nch → J k < w.heap.size := fun k hk => World.block_lt_of_cell? w _ (h.jc k hk 0 (by omega) 0 (by omega))
  exact ⟨(hb.cell lt).trans h.t0, (hb.cell lt).trans h.t1, (hb.cell lt).trans h.t2, (hb.cell lt).trans h.t3, fun o => (hb.frozen lt).trans (h.tf o),
    fun k hk => (hb.cell lc).trans (h.c0 k hk), fun k hk => (hb.cell lc).trans (h.c1 k hk), fun k hk => (hb.cell lc).trans (h.c2 k hk), fun o => (hb.frozen lc).trans (h.cf o),
    fun k hk i hi f hf => (hb.cell (lj k hk)).trans (h.jc k hk i hi f hf), fun k hk o => (hb.frozen (lj k hk)).trans (h.jf k hk o), h.tc, h.jt, h.inj, h.lo, h.small⟩

theorem Tab.drewN {w : World} {B bt bc cap nch : Nat} {J : Nat → Nat} {s : St} (h : Tab w B bt bc cap nch J s) (n : Nat) : Tab (w.drewN n) B bt bc cap nch J s :=
  ⟨h.t0, h.t1, h.t2, h.t3, h.tf, h.c0, h.c1, h.c2, h.cf, h.jc, h.jf, h.tc, h.jt, h.inj, h.lo, h.small⟩

theorem k26 {w : World} {B bt bc cap nch k : Nat} {J : Nat → Nat} {room : Int} {N : Nat → Nat} (h : Tab w B bt bc cap nch J (frees nch room N (k + 1))) (hN : N k / 4096 < nch) :
    Hid (∀ nq, Calls Trym.prog 26 #[.pointer (some ⟨bt, 0, none⟩), .int .i64 ((N k : Int) / 4096)] (w.drewN nq) fun e w' => e = .returned (.int .u32 (N k)) ∧ w' = w.drewN nq) := by
  intro nq
  have hc := chunkFirst (h.drewN nq) (N k / 4096) hN
  have e1 : (frees nch room N (k + 1)).first (N k / 4096) = (N k : Int) := by rw [frees_first, lst_succ, if_pos rfl]; rfl
  rw [e1] at hc
  exact hc

theorem k30 {w : World} {B bt bc cap nch k : Nat} {J : Nat → Nat} {room : Int} {N : Nat → Nat} (h : Tab w B bt bc cap nch J (frees nch room N (k + 1))) (hN : N k < nch * 4096) :
    Hid (∀ nq, Calls Trym.prog 30 #[.pointer (some ⟨bt, 0, none⟩), .int .u32 (N k)] (w.drewN nq) fun e w' => e = .returned (.int .i64 (-1)) ∧ w' = w.drewN nq) := by
  intro nq
  have hc := jobAdded (h.drewN nq) (N k) hN
  have e1 : (frees nch room N (k + 1)).E (N k) 2 = -1 := by rw [frees_E, if_pos rfl]; rfl
  rw [e1] at hc
  exact hc

theorem k23 {w : World} {B bt bc cap nch i : Nat} {J : Nat → Nat} {room : Int} {N : Nat → Nat} (h : Tab w B bt bc cap nch J (frees nch room N i)) :
    Calls Trym.prog 23 #[.pointer (some ⟨bt, 0, none⟩)] w fun e w' => e = .returned (.int .i64 (roomTo room N i)) ∧ w' = w := by
  have hc := tabRoom h
  rw [frees_room] at hc
  exact hc

theorem k28 {w : World} {B bt bc cap nch i c : Nat} {J : Nat → Nat} {room : Int} {N : Nat → Nat} (h : Tab w B bt bc cap nch J (frees nch room N i)) (hc : c < nch) :
    Hid (Calls Trym.prog 28 #[.pointer (some ⟨bt, 0, none⟩), .int .i64 c] w fun e w' => e = .returned (.int .i64 ((lst N c i).length : Int)) ∧ w' = w) := by
  have hf := chunkFreed h c hc
  rw [frees_freed] at hf
  exact hf

theorem kFirst {w : World} {B bt bc cap nch i c : Nat} {J : Nat → Nat} {room : Int} {N : Nat → Nat} (h : Tab w B bt bc cap nch J (frees nch room N i)) (hc : c < nch) :
    Hid (Calls Trym.prog 26 #[.pointer (some ⟨bt, 0, none⟩), .int .i64 c] w fun e w' => e = .returned (.int .u32 (((lst N c i).headD 0 : Nat) : Int)) ∧ w' = w) := by
  have hf := chunkFirst h c hc
  rw [frees_first] at hf
  exact hf

/-- A row of bools that reads as sv. -/
def SeenRow (xs : List Value) (n : Nat) (sv : Nat → Bool) : Prop := xs.length = n ∧ ∀ e, e < n → xs[e]? = some (.bool (sv e))

theorem seen_step {xs : List Value} {n : Nat} {sv : Nat → Bool} {x : Nat} (h : SeenRow xs n sv) (hx : x < n) : SeenRow (xs.set x (.bool true)) n (fun e => e == x || sv e) := by
  refine ⟨by rw [List.length_set]; exact h.1, fun e he => ?_⟩
  rw [List.getElem?_set]
  by_cases ee : x = e
  · subst ee
    rw [if_pos rfl, if_pos (by rw [h.1]; exact hx)]
    simp
  · rw [if_neg ee, h.2 e he]
    have : (e == x) = false := by simpa using fun e' => ee e'.symm
    show _ = some (Value.bool (e == x || sv e))
    rw [this, Bool.false_or]

theorem kAdded {w : World} {B bt bc cap nch : Nat} {J : Nat → Nat} {s : St} (h : Tab w B bt bc cap nch J s) {x : Nat} (hx : x < nch * 4096) (hE : s.E x 2 = -1) :
    Hid (Calls Trym.prog 30 #[.pointer (some ⟨bt, 0, none⟩), .int .u32 x] w fun e w' => e = .returned (.int .i64 (-1)) ∧ w' = w) := by
  have hf := jobAdded h x hx
  rw [hE] at hf
  exact hf

theorem kIndex {w : World} {B bt bc cap nch : Nat} {J : Nat → Nat} {s : St} (h : Tab w B bt bc cap nch J s) {x y : Nat} (hx : x < nch * 4096) (hE : s.E x 6 = (y : Int)) :
    Hid (Calls Trym.prog 27 #[.pointer (some ⟨bt, 0, none⟩), .int .u32 x] w fun e w' => e = .returned (.int .u32 y) ∧ w' = w) := by
  have hf := jobIndex h x hx
  rw [hE] at hf
  exact hf

theorem l_at {l : List Nat} {s : Nat} (hs : s < l.length) : ∃ x, l.drop s = x :: l.drop (s + 1) ∧ x ∈ l ∧ l.take (s + 1) = l.take s ++ [x] ∧ (l.Nodup → x ∉ l.take s) := by
  refine ⟨l[s], List.drop_eq_getElem_cons hs, List.getElem_mem hs, List.take_succ_eq_append_getElem hs, fun hn hm => ?_⟩
  obtain ⟨i, hi, e⟩ := List.getElem_of_mem hm
  rw [List.length_take] at hi
  rw [List.getElem_take] at e
  exact List.pairwise_iff_getElem.1 hn i s (by omega) hs (by omega) e

set_option maxRecDepth 100000 in
set_option maxHeartbeats 2000000 in
theorem keeps (a : Option Addr) (len cap0 : Nat) (N : Nat → Nat) (room : Int) (w : World) (hU : Us w a len N) :
    Calls Trym.prog 6 #[.slice a len cap0, .int .i64 room] w fun e w' => e = .returned (.bool true) ∧ Below w.heap.size w w' := by
  obtain ⟨i0, hi, hz0, hz1, hz2⟩ := info_parts Trym.info4
  have hml := hU.le
  unfold maxLen at hml
  by_cases hl : (65536 : Int) < (len : Int)
  · go_enter Trym.func6, Trym.ntmps6
    go_wp2_with fail
    refine (bytes29 a len cap0 room _ hU.le).mono ?_
    rintro e w' ⟨⟨r, rfl⟩, rfl⟩
    cases r
    · go_wp2_with fail
      go_ret; exact ⟨rfl, Below.refl _ _⟩
    · go_wp2_with fail
      go_ret; exact ⟨rfl, Below.refl _ _⟩
  have hlf : decide ((65536 : Int) < (len : Int)) = false := decide_eq_false hl
  go_enter Trym.func6, Trym.ntmps6
  go_wp2_with fail
  refine (bytes29 a len cap0 room _ hU.le).mono ?_
  rintro e w ⟨⟨r, rfl⟩, rfl⟩
  cases r
  · go_wp2_with fail
    go_ret; exact ⟨rfl, Below.refl _ _⟩
  go_wp2_with fail
  refine (premise a len cap0 N room _ hU (by omega)).mono ?_
  rintro e w1 ⟨hp, hb1⟩
  rcases hp with ⟨x, rfl⟩ | ⟨nch, rfl, h1, h2, hN, hD, hr0, hr1⟩
  · go_wp2_with fail
    go_ret; exact ⟨rfl, hb1⟩
  have HN : Hid (∀ i, i < len → N i < nch * 4096) := hN
  have HD : Hid (∀ i j, i < len → j < len → N i = N j → i = j) := hD
  clear hN hD
  go_wp2_with fail
  refine (clone a len cap0 N _ (hU.later hb1) (by omega)).mono ?_
  rintro e w2 ⟨⟨a2, c2, rfl, hU2⟩, hb2⟩
  have hb02 : Below w.heap.size w w2 := hb1.trans (hb2.mono hb1.size)
  clear hU hb1 hb2
  go_wp2_with (first | (at_make; refine wpList_make_full _ rfl _ _ 38 rfl w2.heap.size 4 i0 (.bool false) 1 Trym.underlying38 hi hz0 hz1 _ _ _ _ (nch * 4096) rfl rfl (by omega) (by omega) (by rw [hz2]; omega) (by unfold maxLen; omega) (Nat.le_refl _) ?_; intro w3 hown hgrow))
  have hm0 := marks_start (nch * 4096) N
  generalize (madeCells (Value.bool false).cells (nch * 4096 * 1)).toList = xs0 at hown hm0
  have hb3 : Below w2.heap.size w2 w3 := (Below.refl _ _).grown hgrow (Nat.le_refl _) (fun k hk => by cases hk)
  clear hgrow
  clear hlf
  go_loopw [9] (fun i wr => ∃ (k : Nat) (xs : List Value), k ≤ len ∧ i = .int .i64 k ∧ wr.ownsRow w2.heap.size 4 1 (.slice (some ⟨w2.heap.size, 0, none⟩) (nch * 4096) (nch * 4096)) (nch * 4096) xs ∧ Hid (Marks xs (nch * 4096) N k) ∧ Below w2.heap.size w2 wr) (fun i _ => len - (intOf i).toNat)
  case atStart => exact ⟨0, xs0, Nat.zero_le _, rfl, hown, hm0, hb3⟩
  case round =>
    obtain ⟨k, xs, hk, rfl, hrow, hmk, hbr⟩ := hrel
    clear hown hm0 hb3
    by_cases hlt : k < len
    · obtain ⟨b, off, rfl, hb, ca, hu⟩ := (hU2.later hbr).at hlt
      have hNk := HN.out k hlt
      have hcm : wr.cell? ⟨w2.heap.size, N k, none⟩ = some (.bool (inTo N k (N k))) := by rw [hrow.cellAt (N k) (by omega)]; exact hmk.out.2 _ hNk
      have hfm : wr.frozen? ⟨w2.heap.size, N k, none⟩ = false := hrow.frozenAt (N k)
      have HS : Hid (_ ∧ _) := hrow.stored (N k) (.bool true)
      have HM2 : Hid (Marks (xs.set (N k) (.bool true)) (nch * 4096) N (k + 1)) := marks_step hmk.out hNk
      go_wp2_with fail
      go_roundw
      case rel => exact ⟨k + 1, _, by omega, by go_num, HS.out.1, HM2, hbr.grown HS.out.2 hbr.size (fun j hj => by cases hj; exact Nat.le_refl _)⟩
      case measure => simp [intOf]; omega
    obtain rfl : len = k := by omega
    obtain ⟨w4, rfl⟩ : ∃ x, x = wr := ⟨_, rfl⟩
    have hU4 := hU2.later hbr
    have HM : Hid (∀ e, e < nch * 4096 → w4.cell? ⟨w2.heap.size, e, none⟩ = some (.bool (inTo N len e))) := fun e he => by rw [hrow.cellAt e (by omega)]; exact hmk.out.2 _ he
    have hz4 : w2.heap.size < w4.heap.size := (hrow.lt _ rfl).2
    have hb04 : Below w.heap.size w w4 := hb02.trans (hbr.mono hb02.size)
    clear hrow hmk hbr hU2 hb02
    go_wp2_with fail
    refine (freeTable nch room h1 h2 _).mono ?_
    rintro e w5 ⟨bt, bc, cap, J, rfl, hb5, hT5⟩
    go_wp2_with fail
    go_loopw [11] (fun i wr => ∃ k : Nat, k ≤ len ∧ i = .int .i64 k ∧ Tab wr w4.heap.size bt bc cap nch J (frees nch room N k) ∧ Below w4.heap.size w4 wr) (fun i _ => len - (intOf i).toNat)
    case atStart => exact ⟨0, Nat.zero_le _, rfl, hT5, hb5⟩
    case round =>
      obtain ⟨k, hk, rfl, hT, hbr⟩ := hrel
      clear hT5 hb5
      by_cases hlt : k < len
      · obtain ⟨b, off, rfl, hb, ca4, hu⟩ := hU4.at hlt
        have hNk := HN.out k hlt
        have ca := (hbr.cell (p := ⟨b, off + k, none⟩) hb).trans ca4
        have hfr : 0 ≤ (frees nch room N k).freed (N k / 4096) ∧ (frees nch room N k).freed (N k / 4096) ≤ 65536 := by
          rw [frees_freed]; have := lst_len (N := N) (N k / 4096) k; omega
        have HF : Hid (0 ≤ (frees nch room N k).freed (N k / 4096) ∧ (frees nch room N k).freed (N k / 4096) ≤ 65536) := hfr
        clear hfr
        go_wp2_with fail
        refine (zfree hT (N k) hNk HF.out).mono ?_
        rintro e w6 ⟨rfl, hb6, hT6⟩
        have hT6 : Tab w6 w4.heap.size bt bc cap nch J (frees nch room N (k + 1)) := hT6
        have hb46 : Below w4.heap.size w4 w6 := hbr.trans hb6
        have ca6 := (hb46.cell (p := ⟨b, off + k, none⟩) hb).trans ca4
        have K26 := k26 hT6 (by omega)
        have K30 := k30 hT6 hNk
        have hrk := roomTo_le (room := room) (N := N) (k + 1) k (by omega)
        have hrk : roomTo room N (k + 1) ≤ (N k : Int) / 4096 := hrk
        clear hT hbr ca HF hb6
        go_wp2_with fail
        go_quiet ((first | (go_at_call 26; exact Calls.quiet_of_same (K26.out _)) | (go_at_call 30; exact Calls.quiet_of_same (K30.out _))))
        go_wp2_with fail
        refine (k23 (hT6.drewN nq)).mono ?_
        rintro e w7 ⟨rfl, rfl⟩
        have hT7 := hT6.drewN nq
        have hb47 : Below w4.heap.size w4 (w6.drewN nq) := below_drewN hb46 nq
        generalize w6.drewN nq = w7 at hT7 hb47 ⊢
        clear hT6 hb46 ca6 K26 K30
        go_wp2_with fail
        have hsm : Hid (sumTo (fun c => (lst N c (k + 1)).length) nch = k + 1) := sum_lst (k + 1) (fun j hj => HN.out j (by omega))
        go_loop [14, 15] (fun x i => ∃ c : Nat, c ≤ nch ∧ i = .int .i64 c ∧ x = .int .i64 ((sumTo (fun c => (lst N c (k + 1)).length) c : Nat) : Int)) (fun _ i => nch - (intOf i).toNat)
        case atStart => exact ⟨0, Nat.zero_le _, rfl, rfl⟩
        case round =>
          obtain ⟨c, hc, rfl, rfl⟩ := hrel
          by_cases hcn : c < nch
          · have hle : sumTo (fun c => (lst N c (k + 1)).length) (c + 1) ≤ k + 1 := by
              have := sumTo_mono (g := fun c => (lst N c (k + 1)).length) (a := c + 1) (b := nch) (by omega)
              rw [hsm.out] at this; exact this
            have hsu : sumTo (fun c => (lst N c (k + 1)).length) (c + 1) = sumTo (fun c => (lst N c (k + 1)).length) c + (lst N c (k + 1)).length := rfl
            have HSU : Hid (sumTo (fun c => (lst N c (k + 1)).length) (c + 1) = sumTo (fun c => (lst N c (k + 1)).length) c + (lst N c (k + 1)).length) := hsu
            rw [hsu] at hle
            clear hsu
            have K28 := k28 hT7 hcn
            by_cases hcr : (c : Int) < roomTo room N (k + 1)
            · have hnil := below_room hcr
              rw [hnil] at K28 HSU hle
              have hle0 : sumTo (fun c => (lst N c (k + 1)).length) c ≤ k + 1 := hle
              clear hle hnil
              go_wp2_with fail
              refine K28.out.mono ?_
              rintro e w8 ⟨rfl, rfl⟩
              go_wp2_with fail
              go_round
              case rel => exact ⟨c + 1, by omega, by go_num, by rw [HSU.out]; first | rfl | simp | go_num⟩
              case measure => simp [intOf]; omega
            · go_wp2_with fail
              refine K28.out.mono ?_
              rintro e w8 ⟨rfl, rfl⟩
              go_wp2_with fail
              go_round
              case rel => exact ⟨c + 1, by omega, by go_num, by rw [HSU.out]; go_num⟩
              case measure => simp [intOf]; omega
          · obtain rfl : nch = c := by omega
            rw [hsm.out]
            go_wp2_with fail
            go_roundw
            case rel => exact ⟨k + 1, by omega, by go_num, hT7, hb47⟩
            case measure => simp [intOf]; omega
      obtain rfl : len = k := by omega
      obtain ⟨w6, rfl⟩ : ∃ x, x = wr := ⟨_, rfl⟩
      have HM6 : Hid (∀ e, e < nch * 4096 → w6.cell? ⟨w2.heap.size, e, none⟩ = some (.bool (inTo N len e))) := fun e he => (hbr.cell (p := ⟨w2.heap.size, e, none⟩) hz4).trans (HM.out e he)
      have hz6 : w2.heap.size < w6.heap.size := Nat.lt_of_lt_of_le hz4 hbr.size
      have hb06 : Below w.heap.size w w6 := hb04.trans (hbr.mono hb04.size)
      clear HM hz4 hbr hb04 hU4
      have hsm : Hid (sumTo (fun c => (lst N c len).length) nch = len) := sum_lst len (fun j hj => HN.out j (by omega))
      go_wp2_with (first | (at_make; refine wpList_make_full _ rfl _ _ 38 rfl w6.heap.size 4 i0 (.bool false) 1 Trym.underlying38 hi hz0 hz1 _ _ _ _ (nch * 4096) rfl rfl (by omega) (by omega) (by rw [hz2]; omega) (by unfold maxLen; omega) (Nat.le_refl _) ?_; intro w7 hown hgrow))
      have hm0 := marks_start (nch * 4096) N
      generalize (madeCells (Value.bool false).cells (nch * 4096 * 1)).toList = xs0 at hown hm0
      have hb7 : Below w6.heap.size w6 w7 := (Below.refl _ _).grown hgrow (Nat.le_refl _) (fun k hk => by cases hk)
      have hse0 : Hid (SeenRow xs0 (nch * 4096) (fun _ => false)) := hm0
      clear hgrow hm0
      go_loopw [18, 19] (fun x i wx => ∃ (c : Nat) (xs : List Value) (sv : Nat → Bool), c ≤ nch ∧ i = .int .i64 c ∧ x = .int .i64 ((sumTo (fun c => (lst N c len).length) c : Nat) : Int) ∧ wx.ownsRow w6.heap.size 4 1 (.slice (some ⟨w6.heap.size, 0, none⟩) (nch * 4096) (nch * 4096)) (nch * 4096) xs ∧ Hid (SeenRow xs (nch * 4096) sv) ∧ Hid (∀ e, sv e = true → e / 4096 < c) ∧ Below w6.heap.size w6 wx) (fun _ i _ => nch - (intOf i).toNat)
      case atStart => exact ⟨0, xs0, fun _ => false, Nat.zero_le _, rfl, rfl, hown, hse0, (fun e he => by cases he), hb7⟩
      case round =>
        obtain ⟨c, xs, sv, hc, rfl, rfl, hrow, hse, hsv, hbr⟩ := hrel
        clear hown hse0 hb7
        by_cases hcn : c < nch
        · have hle : sumTo (fun c => (lst N c len).length) c + (lst N c len).length ≤ len := by
            have := sumTo_mono (g := fun c => (lst N c len).length) (a := c + 1) (b := nch) (by omega)
            rw [hsm.out] at this; exact this
          have HL : Hid (Chain (frees nch room N len) (lst N c len) ∧ (lst N c len).Nodup ∧ ∀ x, x ∈ lst N c len → x < nch * 4096 ∧ x / 4096 = c ∧ inTo N len x = true) :=
            ⟨frees_chain c len HD.out, lst_nodup c len HD.out, fun x hx => by obtain ⟨j, hj, e, h4⟩ := mem_lst hx; exact ⟨by rw [← e]; exact HN.out j hj, h4, (inTo_iff N x len).2 ⟨j, hj, e⟩⟩⟩
          have HSU : Hid (sumTo (fun c => (lst N c len).length) (c + 1) = sumTo (fun c => (lst N c len).length) c + (lst N c len).length) := rfl
          have K28 := k28 (hT.later h1 hbr) hcn
          have KF := kFirst (hT.later h1 hbr) hcn
          generalize sumTo (fun c => (lst N c len).length) c = sc at hle HSU ⊢
          generalize lst N c len = l at hle HL HSU K28 KF ⊢
          go_wp2_with fail
          refine K28.out.mono ?_
          rintro e w8 ⟨rfl, rfl⟩
          go_wp2_with fail
          refine KF.out.mono ?_
          rintro e w8 ⟨rfl, rfl⟩
          clear K28 KF
          go_wp2_with fail
          go_loopw [18, 21, 22] (fun x y i wx => ∃ (s z : Nat) (xs : List Value) (sv : Nat → Bool), s ≤ l.length ∧ i = .int .i64 s ∧ x = .int .i64 ((sc + s : Nat) : Int) ∧ y = .int .u32 z ∧ Hid (z = (l.drop s).headD 0) ∧ wx.ownsRow w6.heap.size 4 1 (.slice (some ⟨w6.heap.size, 0, none⟩) (nch * 4096) (nch * 4096)) (nch * 4096) xs ∧
              Hid (SeenRow xs (nch * 4096) sv) ∧ Hid (∀ e, sv e = true → e / 4096 < c ∨ e ∈ l.take s) ∧ Below w6.heap.size w6 wx) (fun _ _ i _ => l.length - (intOf i).toNat)
          case atStart => exact ⟨0, _, xs, sv, Nat.zero_le _, rfl, rfl, rfl, (by simp [Hid]), hrow, hse, (fun e he => .inl (hsv.out e he)), hbr⟩
          case round =>
            obtain ⟨s, z, xs, sv, hs, rfl, rfl, rfl, HZ, hrow, hse, hsv, hbr⟩ := hrel
            by_cases hsl : s < l.length
            · obtain ⟨x, hx1, hx2, hx3, hx4⟩ := l_at hsl
              have hzx := HZ.out
              rw [hx1] at hzx
              obtain rfl : z = x := hzx
              obtain ⟨q1, q2, q3⟩ := HL.out.2.2 z hx2
              have hch := HL.out.1.drop s
              rw [hx1] at hch
              have KA := kAdded (hT.later h1 hbr) q1 hch.2.1
              have hsf : sv z = false := by
                cases hh : sv z
                · rfl
                · rcases hsv.out z hh with h | h
                  · omega
                  · exact absurd h (hx4 HL.out.2.1)
              have hcs : wr.cell? ⟨w6.heap.size, z, none⟩ = some (.bool false) := by rw [hrow.cellAt z (by omega), hse.out.2 z q1, hsf]
              have hfs : wr.frozen? ⟨w6.heap.size, z, none⟩ = false := hrow.frozenAt z
              have hcm : wr.cell? ⟨w2.heap.size, z, none⟩ = some (.bool true) := by rw [hbr.cell (p := ⟨w2.heap.size, z, none⟩) hz6, HM6.out z q1, q3]
              have HS : Hid (_ ∧ _) := hrow.stored z (.bool true)
              have hb2 : Below w6.heap.size w6 (wr.setCell ⟨w6.heap.size, z, none⟩ (.bool true)) := hbr.grown HS.out.2 hbr.size (fun j hj => by cases hj; exact Nat.le_refl _)
              have KI := kIndex (hT.later h1 hb2) q1 hch.1
              have HSE : Hid (SeenRow (xs.set z (.bool true)) (nch * 4096) (fun e => e == z || sv e)) := seen_step hse.out q1
              have HSV : Hid (∀ e, (e == z || sv e) = true → e / 4096 < c ∨ e ∈ l.take (s + 1)) := fun e he => by
                rw [hx3]
                rcases Bool.or_eq_true _ _ ▸ he with h | h
                · right; have := beq_iff_eq.1 h; subst this; simp
                · rcases hsv.out e h with h | h
                  · exact .inl h
                  · exact .inr (List.mem_append_left _ h)
              have hq1 : (z : Int) < (nch : Int) * 4096 := by omega
              have hq2 : (z : Int) / 4096 ≤ (c : Int) ∧ (c : Int) ≤ (z : Int) / 4096 := by omega
              obtain ⟨hq2, hq3⟩ := hq2
              clear hx1 hx2 hx3 hx4 hsf q3 hse hsv hch HZ
              go_wp2_with fail
              refine KA.out.mono ?_
              rintro e w8 ⟨rfl, rfl⟩
              go_wp2_with fail
              refine KI.out.mono ?_
              rintro e w8 ⟨rfl, rfl⟩
              go_wp2_with fail
              go_roundw
              case rel => exact ⟨s + 1, _, _, _, by omega, by go_num, by go_num, rfl, by simp [Hid], HS.out.1, HSE, HSV, hb2⟩
              case measure => simp [intOf]; omega
            · obtain rfl : s = l.length := by omega
              have HSV : Hid (∀ e, sv e = true → e / 4096 < c + 1) := fun e he => by
                rcases hsv.out e he with h | h
                · omega
                · have := (HL.out.2.2 e (List.mem_of_mem_take h)).2.1; omega
              clear hsv
              go_wp2_with fail
              go_roundw
              case rel => exact ⟨c + 1, xs, sv, by omega, by go_num, by rw [HSU.out], hrow, hse, HSV, hbr⟩
              case measure => simp [intOf]; omega
        · obtain rfl : nch = c := by omega
          rw [hsm.out]
          go_wp2_with fail
          go_ret
          exact ⟨by simp, hb06.trans (hbr.mono hb06.size)⟩
end Go.Proofs.Qxb6606257aMods
