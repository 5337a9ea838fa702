import Derived.Test.Qxb6612698aModsRow
import Derived.RegionTactic
import Derived.ChangeAlike
import Derived.BigRegion
namespace Go.Proofs.Qxb6612698aMods
open Go.RowKit

/-- The first k words: the complement. -/
def fillNot (S : Nat → Nat) (k j : Nat) : Nat := if j < k then ones ^^^ S j else 0
/-- The first k words: the union. -/
def fillOr (S T : Nat → Nat) (k j : Nat) : Nat := if j < k then S j ||| T j else 0

theorem not_bit (X k : Nat) (hk : k < 64) : (ones ^^^ X).testBit k = !X.testBit k := by
  rw [Nat.testBit_xor, ones_bit k hk]
  simp

theorem not_lt (X : Nat) (hX : X < 18446744073709551616) : ones ^^^ X < 18446744073709551616 := Nat.xor_lt_two_pow (n := 64) (by unfold ones; omega) hX

theorem not_nat (X : Nat) (hX : X < 18446744073709551616) : bits .xor .u64 IntKind.u64.max (X : Int) = ((ones ^^^ X : Nat) : Int) :=
  u64_xor_nat ones X (by unfold ones; omega) hX

theorem or_lt (X Y : Nat) (hX : X < 18446744073709551616) (hY : Y < 18446744073709551616) : X ||| Y < 18446744073709551616 := Nat.or_lt_two_pow (n := 64) hX hY

set_option maxRecDepth 100000 in
set_option maxHeartbeats 2000000 in
theorem union (ca cb z0 : Array Value) (S T : Nat → Nat) (r : Int) (w : World) (hca : Words ca S) (hcb : Words cb T) (hS : ∀ i, i < 1024 → S i < 18446744073709551616) (hT : ∀ i, i < 1024 → T i < 18446744073709551616) (hz0 : Words z0 (fun _ => 0))
    (hz : ∀ w : World, (zeroValue 23).run Trym.prog w = .ok (.agg z0) w) (hr1 : -2147483648 ≤ r) (hr2 : r ≤ 2147483647) :
    Calls Trym.prog 4 #[.agg ca, .agg cb, .int .i32 r] w fun e w' => e = .returned (.bool true) ∧ Below w.heap.size w w' := by
  go_enter Trym.func4, Trym.ntmps4
  go_wp2_with fail
  have b1 : Below w.heap.size w (w.alloc (.cells ca 23)) := (Below.refl _ _).alloc (Nat.le_refl _) _
  have b2 : Below (w.heap.size + 1) (w.alloc (.cells ca 23)) ((w.alloc (.cells ca 23)).alloc (.cells cb 23)) := (Below.refl _ _).alloc (by simp) _
  have b3 : Below (w.heap.size + 1 + 1) ((w.alloc (.cells ca 23)).alloc (.cells cb 23)) (((w.alloc (.cells ca 23)).alloc (.cells cb 23)).alloc (.cells z0 23)) := (Below.refl _ _).alloc (by simp) _
  have b4 : Below (w.heap.size + 1 + 1 + 1) (((w.alloc (.cells ca 23)).alloc (.cells cb 23)).alloc (.cells z0 23)) ((((w.alloc (.cells ca 23)).alloc (.cells cb 23)).alloc (.cells z0 23)).alloc (.cells z0 23)) := (Below.refl _ _).alloc (by simp) _
  have W0 : Wd (w.alloc (.cells ca 23)) w.heap.size S := wd_alloc hca
  have W1 : Wd ((w.alloc (.cells ca 23)).alloc (.cells cb 23)) (w.heap.size + 1) T := by have := wd_alloc (w := w.alloc (.cells ca 23)) hcb; rwa [World.size_alloc] at this
  have W2 : Wd (((w.alloc (.cells ca 23)).alloc (.cells cb 23)).alloc (.cells z0 23)) (w.heap.size + 1 + 1) (fun _ => 0) := by have := wd_alloc (w := (w.alloc (.cells ca 23)).alloc (.cells cb 23)) hz0; rwa [World.size_alloc, World.size_alloc] at this
  have W3 : Wd ((((w.alloc (.cells ca 23)).alloc (.cells cb 23)).alloc (.cells z0 23)).alloc (.cells z0 23)) (w.heap.size + 1 + 1 + 1) (fun _ => 0) := by have := wd_alloc (w := ((w.alloc (.cells ca 23)).alloc (.cells cb 23)).alloc (.cells z0 23)) hz0; rwa [World.size_alloc, World.size_alloc, World.size_alloc] at this
  have V0 := ((W0.later (by simpa using b2)).later (by simpa using b3)).later (by simpa using b4)
  have V1 := (W1.later (by simpa using b3)).later (by simpa using b4)
  have V2 := W2.later (by simpa using b4)
  have bb : Below w.heap.size w ((((w.alloc (.cells ca 23)).alloc (.cells cb 23)).alloc (.cells z0 23)).alloc (.cells z0 23)) := ((b1.trans (b2.mono (by omega))).trans (b3.mono (by omega))).trans (b4.mono (by omega))
  clear b1 b2 b3 b4 W0 W1 W2
  generalize (((w.alloc (.cells ca 23)).alloc (.cells cb 23)).alloc (.cells z0 23)).alloc (.cells z0 23) = wa at V0 V1 V2 W3 bb ⊢
  clear hz hz0 hca hcb
  go_loopw [9] (fun i wr => ∃ k : Nat, k ≤ 1024 ∧ i = .int .i64 k ∧ Wd wr w.heap.size S ∧ Wd wr (w.heap.size + 1) T ∧ Wd wr (w.heap.size + 1 + 1) (fillNot S k) ∧ Wd wr (w.heap.size + 1 + 1 + 1) (fillOr S T k) ∧ Below w.heap.size w wr) (fun i _ => 1024 - (intOf i).toNat)
  case atStart => exact ⟨0, Nat.zero_le _, rfl, V0, V1, V2.same (fun i hi => by simp [fillNot]), W3.same (fun i hi => by simp [fillOr]), bb⟩
  case round =>
    obtain ⟨k, hk, rfl, U0, U1, U2, U3, hb⟩ := hrel
    clear V0 V1 V2 W3 bb
    by_cases hlt : k < 1024
    · have hki : (k : Int) < 1024 := by omega
      have c0 := U0.cell k hlt
      have c2 := U2.cell k hlt
      have f2 := U2.froz k
      go_wp2_with fail
      rw [not_nat _ (hS k hlt)]
      have X0 : Wd (wr.setCell ⟨w.heap.size + 1 + 1, k, none⟩ (.int .u64 ((ones ^^^ S k : Nat) : Int))) w.heap.size S := U0.other (by omega)
      have X1 : Wd (wr.setCell ⟨w.heap.size + 1 + 1, k, none⟩ (.int .u64 ((ones ^^^ S k : Nat) : Int))) (w.heap.size + 1) T := U1.other (by omega)
      have X2 : Wd (wr.setCell ⟨w.heap.size + 1 + 1, k, none⟩ (.int .u64 ((ones ^^^ S k : Nat) : Int))) (w.heap.size + 1 + 1) (fillNot S (k + 1)) :=
        (U2.set k (ones ^^^ S k) hlt).same (fun i hi => by unfold fillNot; by_cases e : i = k; subst e; simp; by_cases e2 : i < k; simp [e, e2]; omega; simp [e, e2]; omega)
      have X3 : Wd (wr.setCell ⟨w.heap.size + 1 + 1, k, none⟩ (.int .u64 ((ones ^^^ S k : Nat) : Int))) (w.heap.size + 1 + 1 + 1) (fillOr S T k) := U3.other (by omega)
      have hb2 : Below w.heap.size w (wr.setCell ⟨w.heap.size + 1 + 1, k, none⟩ (.int .u64 ((ones ^^^ S k : Nat) : Int))) := hb.setCell (p := ⟨w.heap.size + 1 + 1, k, none⟩) (by simp; omega) _
      generalize (ones ^^^ S k) = x1 at X0 X1 X2 X3 hb2 ⊢
      generalize wr.setCell ⟨w.heap.size + 1 + 1, k, none⟩ (.int .u64 (x1 : Int)) = wm at X0 X1 X2 X3 hb2 ⊢
      clear U0 U1 U2 U3 hb c0 c2 f2
      have c0 := X0.cell k hlt
      have c1 := X1.cell k hlt
      have c3 := X3.cell k hlt
      have f3 := X3.froz k
      go_region
      rw [u64_or_nat _ _ (hS k hlt) (hT k hlt)]
      have Y0 : Wd (wm.setCell ⟨w.heap.size + 1 + 1 + 1, k, none⟩ (.int .u64 ((S k ||| T k : Nat) : Int))).drew w.heap.size S := (X0.other (by omega)).drewN 1
      have Y1 : Wd (wm.setCell ⟨w.heap.size + 1 + 1 + 1, k, none⟩ (.int .u64 ((S k ||| T k : Nat) : Int))).drew (w.heap.size + 1) T := (X1.other (by omega)).drewN 1
      have Y2 : Wd (wm.setCell ⟨w.heap.size + 1 + 1 + 1, k, none⟩ (.int .u64 ((S k ||| T k : Nat) : Int))).drew (w.heap.size + 1 + 1) (fillNot S (k + 1)) := (X2.other (by omega)).drewN 1
      have Y3 : Wd (wm.setCell ⟨w.heap.size + 1 + 1 + 1, k, none⟩ (.int .u64 ((S k ||| T k : Nat) : Int))).drew (w.heap.size + 1 + 1 + 1) (fillOr S T (k + 1)) :=
        ((X3.set k (S k ||| T k) hlt).same (fun i hi => by unfold fillOr; by_cases e : i = k; subst e; simp; by_cases e2 : i < k; simp [e, e2]; omega; simp [e, e2]; omega)).drewN 1
      have hb3 : Below w.heap.size w (wm.setCell ⟨w.heap.size + 1 + 1 + 1, k, none⟩ (.int .u64 ((S k ||| T k : Nat) : Int))).drew := below_drewN (hb2.setCell (p := ⟨w.heap.size + 1 + 1 + 1, k, none⟩) (by simp; omega) _) 1
      generalize (S k ||| T k) = x2 at Y0 Y1 Y2 Y3 hb3 ⊢
      generalize (wm.setCell ⟨w.heap.size + 1 + 1 + 1, k, none⟩ (.int .u64 (x2 : Int))).drew = wn at Y0 Y1 Y2 Y3 hb3 ⊢
      clear X0 X1 X2 X3 hb2 c0 c1 c3 f3
      go_wp2_with fail
      go_roundw
      case rel => exact ⟨k + 1, by omega, by go_num, Y0, Y1, Y2, Y3, hb3⟩
      case measure => simp [intOf]; omega
    obtain ⟨wb, rfl⟩ : ∃ x, x = wr := ⟨_, rfl⟩
    have U2 : Wd wb (w.heap.size + 1 + 1) (fun i => ones ^^^ S i) := U2.same (fun i hi => by unfold fillNot; rw [if_pos (by omega)])
    have U3 : Wd wb (w.heap.size + 1 + 1 + 1) (fun i => S i ||| T i) := U3.same (fun i hi => by unfold fillOr; rw [if_pos (by omega)])
    by_cases hout : r < 0 ∨ 65535 < r
    · have HZ : Hid (∀ b n, Calls Trym.prog 5 #[.pointer (some ⟨b, 0, none⟩), .int .i32 r] (wb.drewN n) fun e w' => e = .returned (.bool false) ∧ ∃ m, w' = (wb.drewN n).drewN m) := fun b n => zhas_out b r _ hr1 hr2 hout
      clear U0 U1 U2 U3
      go_wp2_with fail
      refine (HZ.out _ 0).mono ?_
      rintro e w1 ⟨rfl, m, rfl⟩
      rw [World.drewN_drewN]
      go_wp2_with fail
      refine (HZ.out _ _).mono ?_
      rintro e w1 ⟨rfl, m2, rfl⟩
      rw [World.drewN_drewN]
      go_wp2_with fail
      refine (HZ.out _ _).mono ?_
      rintro e w1 ⟨rfl, m3, rfl⟩
      rw [World.drewN_drewN]
      rcases hout with hout | hout
      · go_wp2_with fail
        refine (HZ.out _ _).mono ?_
        rintro e w1 ⟨rfl, m4, rfl⟩
        go_wp2_with fail
        go_ret
        exact ⟨rfl, below_drewN hb _⟩
      · have hout' : ¬ r < 0 := by omega
        go_wp2_with fail
        refine (HZ.out _ _).mono ?_
        rintro e w1 ⟨rfl, m4, rfl⟩
        go_wp2_with fail
        go_ret
        exact ⟨rfl, below_drewN hb _⟩
    obtain ⟨q, rfl⟩ := Int.eq_ofNat_of_zero_le (show 0 ≤ r by omega)
    have hq : q ≤ 65535 := by omega
    have h0 : ¬ ((q : Int) < 0) := by omega
    have h1 : ¬ ((65535 : Int) < (q : Int)) := by omega
    have hlq : q / 64 < 1024 := by omega
    have C1 := zhas_val (w := wb) U0 hq hS rfl
    have C2 := fun n => zhas_val (U2.drewN n) hq (fun i hi => not_lt _ (hS i hi)) (not_bit _ _ (Nat.mod_lt _ (by omega)))
    have C3 := fun n => zhas_val (U1.drewN n) hq hT rfl
    have C4 := fun n => zhas_val (U3.drewN n) hq (fun i hi => or_lt _ _ (hS i hi) (hT i hi)) (Nat.testBit_or _ _ _)
    generalize (S (q / 64)).testBit (q % 64) = ba at C1 C2 C4
    generalize (T (q / 64)).testBit (q % 64) = bc at C3 C4
    clear U0 U1 U2 U3 hout hS hT
    have D2 : Hid (∀ n, Hid (Calls Trym.prog 5 #[.pointer (some ⟨w.heap.size + 1 + 1, 0, none⟩), .int .i32 q] (wb.drewN n) fun e w' => e = .returned (.bool !ba) ∧ ∃ m, w' = (wb.drewN n).drewN m)) := C2
    have D3 : Hid (∀ n, Hid (Calls Trym.prog 5 #[.pointer (some ⟨w.heap.size + 1, 0, none⟩), .int .i32 q] (wb.drewN n) fun e w' => e = .returned (.bool bc) ∧ ∃ m, w' = (wb.drewN n).drewN m)) := C3
    have D4 : Hid (∀ n, Hid (Calls Trym.prog 5 #[.pointer (some ⟨w.heap.size + 1 + 1 + 1, 0, none⟩), .int .i32 q] (wb.drewN n) fun e w' => e = .returned (.bool (ba || bc)) ∧ ∃ m, w' = (wb.drewN n).drewN m)) := C4
    clear C2 C3 C4
    go_wp2_with fail
    refine C1.out.mono ?_
    rintro e w1 ⟨rfl, m, rfl⟩
    go_wp2_with fail
    refine (D2.out _).out.mono ?_
    rintro e w1 ⟨rfl, m2, rfl⟩
    rw [World.drewN_drewN]
    go_wp2_with fail
    refine (D3.out _).out.mono ?_
    rintro e w1 ⟨rfl, m3, rfl⟩
    rw [World.drewN_drewN]
    go_wp2_with fail
    refine (D4.out _).out.mono ?_
    rintro e w1 ⟨rfl, m4, rfl⟩
    clear C1 D2 D3 D4
    cases ba <;> cases bc
    all_goals
      simp only [Bool.not_true, Bool.not_false, Bool.or_true, Bool.or_false]
      go_wp2_with fail
      go_ret
      exact ⟨rfl, below_drewN hb _⟩
end Go.Proofs.Qxb6612698aMods
