import Derived.Test.Qxb6612698aModsRow
namespace Go.Proofs.Qxb6612698aMods
open Go.RowKit

/-- The words with q's bit flipped. -/
def tgl (S : Nat → Nat) (q j : Nat) : Nat := if j = q / 64 then S (q / 64) ^^^ 2 ^ (q % 64) else S j

theorem tgl_lt (S : Nat → Nat) (q : Nat) (hS : ∀ i, i < 1024 → S i < 18446744073709551616) : ∀ i, i < 1024 → tgl S q i < 18446744073709551616 := by
  intro i hi
  unfold tgl
  split
  · rename_i e
    exact xor_lt _ _ (by rw [← e]; exact hS i hi) (by omega)
  · exact hS i hi

theorem tgl_same (S : Nat → Nat) (q : Nat) : (tgl S q (q / 64)).testBit (q % 64) = !(S (q / 64)).testBit (q % 64) := by
  unfold tgl
  rw [if_pos rfl, xor_bit]
  simp

theorem tgl_other (S : Nat → Nat) (q p : Nat) (h : p ≠ q) : (tgl S q (p / 64)).testBit (p % 64) = (S (p / 64)).testBit (p % 64) := by
  unfold tgl
  by_cases e : p / 64 = q / 64
  · rw [if_pos e, xor_bit, ← e]
    have : ¬ q % 64 = p % 64 := by omega
    simp [this]
  · rw [if_neg e]

set_option maxRecDepth 100000 in
set_option maxHeartbeats 2000000 in
theorem toggle (cs z0 : Array Value) (S : Nat → Nat) (r s : Int) (w : World) (hcs : Words cs S) (hS : ∀ i, i < 1024 → S i < 18446744073709551616) (hz0 : Words z0 (fun _ => 0))
    (hz : ∀ w : World, (zeroValue 23).run Trym.prog w = .ok (.agg z0) w) (hr1 : -2147483648 ≤ r) (hr2 : r ≤ 2147483647) (hs1 : -2147483648 ≤ s) (hs2 : s ≤ 2147483647) :
    Calls Trym.prog 3 #[.agg cs, .int .i32 r, .int .i32 s] w fun e w' => e = .returned (.bool true) ∧ Below w.heap.size w w' := by
  go_enter Trym.func3, Trym.ntmps3
  go_wp2_with fail
  have b1 : Below w.heap.size w (w.alloc (.cells cs 23)) := (Below.refl _ _).alloc (Nat.le_refl _) _
  have b2 : Below (w.heap.size + 1) (w.alloc (.cells cs 23)) ((w.alloc (.cells cs 23)).alloc (.cells z0 23)) := (Below.refl _ _).alloc (by simp) _
  have b3 : Below (w.heap.size + 1 + 1) ((w.alloc (.cells cs 23)).alloc (.cells z0 23)) (((w.alloc (.cells cs 23)).alloc (.cells z0 23)).alloc (.cells z0 23)) := (Below.refl _ _).alloc (by simp) _
  have W0 : Wd (w.alloc (.cells cs 23)) w.heap.size S := wd_alloc hcs
  have W1 : Wd ((w.alloc (.cells cs 23)).alloc (.cells z0 23)) (w.heap.size + 1) (fun _ => 0) := by have := wd_alloc (w := w.alloc (.cells cs 23)) hz0; rwa [World.size_alloc] at this
  have W2 : Wd (((w.alloc (.cells cs 23)).alloc (.cells z0 23)).alloc (.cells z0 23)) (w.heap.size + 1 + 1) (fun _ => 0) := by have := wd_alloc (w := (w.alloc (.cells cs 23)).alloc (.cells z0 23)) hz0; rwa [World.size_alloc, World.size_alloc] at this
  have V0 : Wd (((w.alloc (.cells cs 23)).alloc (.cells z0 23)).alloc (.cells z0 23)) w.heap.size S := (W0.later (by simpa using b2)).later (by simpa using b3)
  have V1 : Wd (((w.alloc (.cells cs 23)).alloc (.cells z0 23)).alloc (.cells z0 23)) (w.heap.size + 1) (fun _ => 0) := W1.later (by simpa using b3)
  have bb : Below w.heap.size w (((w.alloc (.cells cs 23)).alloc (.cells z0 23)).alloc (.cells z0 23)) := (b1.trans (b2.mono (by omega))).trans (b3.mono (by omega))
  clear b1 b2 b3 W0 W1
  generalize ((w.alloc (.cells cs 23)).alloc (.cells z0 23)).alloc (.cells z0 23) = wa at V0 V1 W2 bb ⊢
  go_loopw [9] (fun i wr => ∃ k : Nat, k ≤ 1024 ∧ i = .int .i64 k ∧ Wd wr w.heap.size S ∧ Wd wr (w.heap.size + 1) (fun _ => 0) ∧ Wd wr (w.heap.size + 1 + 1) (fillOnes k) ∧ Below w.heap.size w wr) (fun i _ => 1024 - (intOf i).toNat)
  case atStart => exact ⟨0, Nat.zero_le _, rfl, V0, V1, W2.same (fun i hi => by simp [fillOnes]), bb⟩
  case round =>
    obtain ⟨k, hk, rfl, U0, U1, U2, hb⟩ := hrel
    clear V0 V1 W2 bb
    by_cases hlt : k < 1024
    · have hki : (k : Int) < 1024 := by omega
      have hc := U2.cell k hlt
      have hf := U2.froz k
      have HW : Hid (Wd (wr.setCell ⟨w.heap.size + 1 + 1, k, none⟩ (.int .u64 18446744073709551615)) (w.heap.size + 1 + 1) (fillOnes (k + 1))) :=
        (U2.set k ones hlt).same (fun i hi => by unfold fillOnes; by_cases e : i = k; subst e; simp; by_cases e2 : i < k; simp [e, e2]; omega; simp [e, e2]; omega)
      go_wp2_with fail
      go_roundw
      case rel => exact ⟨k + 1, by omega, by go_num, U0.other (by omega), U1.other (by omega), HW.out, hb.setCell (p := ⟨w.heap.size + 1 + 1, k, none⟩) (by simp; omega) _⟩
      case measure => simp [intOf]; omega
    obtain ⟨wb, rfl⟩ : ∃ x, x = wr := ⟨_, rfl⟩
    have U2 : Wd wb (w.heap.size + 1 + 1) (fun _ => ones) := U2.same (fun i hi => by unfold fillOnes; rw [if_pos (by omega)])
    by_cases hout : r < 0 ∨ 65535 < r
    · have Z : ∀ b n, Calls Trym.prog 5 #[.pointer (some ⟨b, 0, none⟩), .int .i32 r] (wb.drewN n) fun e w' => e = .returned (.bool false) ∧ ∃ m, w' = (wb.drewN n).drewN m := fun b n => zhas_out b r _ hr1 hr2 hout
      have HZ : Hid (∀ b n, Calls Trym.prog 5 #[.pointer (some ⟨b, 0, none⟩), .int .i32 r] (wb.drewN n) fun e w' => e = .returned (.bool false) ∧ ∃ m, w' = (wb.drewN n).drewN m) := Z
      clear Z
      rcases hout with hout | hout
      · go_wp2_with fail
        refine (HZ.out _ 0).mono ?_
        rintro e w1 ⟨rfl, m, rfl⟩
        go_wp2_with fail
        refine (HZ.out _ m).mono ?_
        rintro e w1 ⟨rfl, m2, rfl⟩
        go_wp2_with fail
        go_ret
        exact ⟨rfl, below_drewN hb _⟩
      · have hout' : ¬ r < 0 := by omega
        go_wp2_with fail
        refine (HZ.out _ 0).mono ?_
        rintro e w1 ⟨rfl, m, rfl⟩
        go_wp2_with fail
        refine (HZ.out _ m).mono ?_
        rintro e w1 ⟨rfl, m2, rfl⟩
        go_wp2_with fail
        go_ret
        exact ⟨rfl, below_drewN hb _⟩
    obtain ⟨q, rfl⟩ := Int.eq_ofNat_of_zero_le (show 0 ≤ r by omega)
    have hq : q ≤ 65535 := by omega
    have h0 : ¬ ((q : Int) < 0) := by omega
    have h1 : ¬ ((65535 : Int) < (q : Int)) := by omega
    have C1 := zhas_val (v := false) U1 hq (fun i hi => by omega) (zero_bit _)
    go_wp2_with fail
    refine C1.out.mono ?_
    rintro e w1 ⟨rfl, n1, rfl⟩
    have C2 := zhas_val (v := true) (U2.drewN n1) hq (fun i hi => by unfold ones; omega) (ones_bit _ (by omega))
    go_wp2_with fail
    refine C2.out.mono ?_
    rintro e w1 ⟨rfl, n2, rfl⟩
    have T0 : Wd ((wb.drewN n1).drewN n2) w.heap.size S := (U0.drewN n1).drewN n2
    have hbc : Below w.heap.size w ((wb.drewN n1).drewN n2) := below_drewN (below_drewN hb _) _
    generalize (wb.drewN n1).drewN n2 = wc at T0 hbc ⊢
    clear C1 C2 U0 U1 U2 hb hout
    have HR : Hid (wc.rangeAt w.heap.size 0 cs.toList) := fun j v hv => by
      have hj : j < 1024 := by have := (List.getElem?_eq_some_iff.1 hv).1; rw [Array.length_toList, hcs.1] at this; exact this
      rw [Array.getElem?_toList, hcs.2 j hj] at hv
      rw [Nat.zero_add, T0.cell j hj, hv]
    have hi23 : (Trym.prog.info? 23).map (·.size) = some cs.toList.length := by rw [Array.length_toList, hcs.1]; kernel_rfl
    have HI : Hid ((Trym.prog.info? 23).map (·.size) = some cs.toList.length) := hi23
    clear hi23
    have T1 : Wd ((wc.alloc (.cells z0 23)).setCells wc.heap.size 0 cs.toList) wc.heap.size S := (wd_alloc hz0).put (by rw [Array.length_toList]; exact hcs.1) (fun i hi => by rw [Array.getElem?_toList]; exact hcs.2 i hi)
    have bx : Below wc.heap.size wc ((wc.alloc (.cells z0 23)).setCells wc.heap.size 0 cs.toList) := below_setCells (Nat.le_refl _) _ _ _ ((Below.refl _ _).alloc (Nat.le_refl _) _)
    have T2 := T0.later bx
    have hbd : Below w.heap.size w ((wc.alloc (.cells z0 23)).setCells wc.heap.size 0 cs.toList) := hbc.trans (bx.mono hbc.size)
    have HT : Hid ((wc.alloc (.cells z0 23)).there wc.heap.size 0 cs.size) := fun j hj => by
      have W := wd_alloc (w := wc) hz0
      rw [Nat.zero_add]
      exact ⟨by rw [W.cell j (by rw [hcs.1] at hj; exact hj)]; rfl, W.froz j⟩
    have HI2 : Hid ((Trym.prog.info? 23).map (·.size) = some cs.size) := HI.out
    have H1 : Hid (cs.all (·.oneCell') = true) := Array.all_eq_true_iff_forall_mem.2 (fun v hv => by
      obtain ⟨i, hi, rfl⟩ := Array.getElem_of_mem hv
      have := hcs.2 i (by rw [hcs.1] at hi; exact hi)
      rw [Array.getElem?_eq_getElem hi] at this
      rw [Option.some.inj this]; rfl)
    have hlt0 := T0.lt
    clear bx hbc T0
    go_wp2_with (first | (refine wpList_load_mid rfl 23 _ rfl w.heap.size 0 rfl cs.toList _ HR.out Trym.underlying23 rfl HI.out ?_) | (refine wpList_store_mid rfl 23 _ _ rfl wc.heap.size 0 cs rfl rfl HT.out HI2.out H1.out ?_; generalize (wc.alloc (.cells z0 23)).setCells wc.heap.size 0 cs.toList = wd at T1 T2 hbd ⊢; have ct := T1.cell (q / 64) (by omega); have cf := T1.froz (q / 64); have hqq : (q : Int) / 64 < 1024 := by omega))
    rw [xor_nat (S (q / 64)) (q % 64) (hS _ (by omega)) (by omega)]
    have T3 : Wd (wd.setCell ⟨wc.heap.size, q / 64, none⟩ (.int .u64 ((S (q / 64) ^^^ 2 ^ (q % 64) : Nat) : Int))) wc.heap.size (tgl S q) := T1.set (q / 64) _ (by omega)
    have T4 : Wd (wd.setCell ⟨wc.heap.size, q / 64, none⟩ (.int .u64 ((S (q / 64) ^^^ 2 ^ (q % 64) : Nat) : Int))) w.heap.size S := T2.other (by omega)
    have hbe : Below w.heap.size w (wd.setCell ⟨wc.heap.size, q / 64, none⟩ (.int .u64 ((S (q / 64) ^^^ 2 ^ (q % 64) : Nat) : Int))) := hbd.setCell (p := ⟨wc.heap.size, q / 64, none⟩) (by simp; omega) _
    generalize (S (q / 64) ^^^ 2 ^ (q % 64)) = x1 at T3 T4 hbe ⊢
    generalize wd.setCell ⟨wc.heap.size, q / 64, none⟩ (.int .u64 (x1 : Int)) = we at T3 T4 hbe ⊢
    have hT := tgl_lt S q hS
    clear T1 T2 hbd HR HI HT HI2 H1 ct cf hqq U2 hz hz0 hcs
    have C3 := zhas_val T3 hq hT (tgl_same S q)
    have C4 := fun n => zhas_val (T4.drewN n) hq hS rfl
    have FIN : Hid (∀ n, ∀ p : Nat, p ≤ 65535 → p ≠ q → ∀ b, (S (p / 64)).testBit (p % 64) = b → Calls Trym.prog 5 #[.pointer (some ⟨wc.heap.size, 0, none⟩), .int .i32 p] (we.drewN n) fun e w' => e = .returned (.bool b) ∧ ∃ m, w' = (we.drewN n).drewN m) :=
      fun n p hp hpq b hb => zhas_val (T3.drewN n) hp hT ((tgl_other S q p hpq).trans hb)
    have FIN2 : Hid (∀ n, ∀ p : Nat, p ≤ 65535 → ∀ b, (S (p / 64)).testBit (p % 64) = b → Calls Trym.prog 5 #[.pointer (some ⟨w.heap.size, 0, none⟩), .int .i32 p] (we.drewN n) fun e w' => e = .returned (.bool b) ∧ ∃ m, w' = (we.drewN n).drewN m) :=
      fun n p hp b hb => zhas_val (T4.drewN n) hp hS hb
    clear T3 T4 hT
    cases hB : (S (q / 64)).testBit (q % 64)
    all_goals
      rw [hB] at C3 C4
      refine C3.out.mono ?_
      rintro e w1 ⟨rfl, n3, rfl⟩
      go_wp2_with fail
      refine (C4 n3).out.mono ?_
      rintro e w1 ⟨rfl, n4, rfl⟩
      clear C3 C4 hB
      rw [World.drewN_drewN]
      by_cases hsq : s = (q : Int)
      · subst hsq
        go_wp2_with fail
        go_ret
        exact ⟨rfl, below_drewN hbe _⟩
      have hne : (s != (q : Int)) = true := by rw [bne_iff_ne]; exact hsq
      by_cases hso : s < 0 ∨ 65535 < s
      · have HZ : Hid (∀ b n, Calls Trym.prog 5 #[.pointer (some ⟨b, 0, none⟩), .int .i32 s] (we.drewN n) fun e w' => e = .returned (.bool false) ∧ ∃ m, w' = (we.drewN n).drewN m) := fun b n => zhas_out b s _ hs1 hs2 hso
        go_wp2_with fail
        refine (HZ.out _ _).mono ?_
        rintro e w1 ⟨rfl, n5, rfl⟩
        rw [World.drewN_drewN]
        go_wp2_with fail
        refine (HZ.out _ _).mono ?_
        rintro e w1 ⟨rfl, n6, rfl⟩
        go_wp2_with fail
        go_ret
        exact ⟨rfl, below_drewN hbe _⟩
      · obtain ⟨p, rfl⟩ := Int.eq_ofNat_of_zero_le (show 0 ≤ s by omega)
        go_wp2_with fail
        refine (FIN.out _ p (by omega) (by omega) _ rfl).mono ?_
        rintro e w1 ⟨rfl, n5, rfl⟩
        rw [World.drewN_drewN]
        generalize hV : (S (p / 64)).testBit (p % 64) = V
        have HV : Hid ((S (p / 64)).testBit (p % 64) = V) := hV
        clear hV
        go_wp2_with fail
        refine (FIN2.out _ p (by omega) V HV.out).mono ?_
        rintro e w1 ⟨rfl, n6, rfl⟩
        go_wp2_with fail
        go_ret
        exact ⟨rfl, below_drewN hbe _⟩
end Go.Proofs.Qxb6612698aMods
