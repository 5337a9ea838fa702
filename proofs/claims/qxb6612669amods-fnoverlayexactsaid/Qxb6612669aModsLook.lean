import Derived.Test.Qxb6612669aModsOv
namespace Go.Proofs.Qxb6612669aMods
open Go.RowKit
open Go.Maps (Keyed)

/-- The bytes that a look-up gives back: none where the key is not there. -/
def byt : Option (DataW Unit) → ByteArray
  | some (.lit (.string l)) => ⟨l.toArray⟩
  | _ => ⟨#[]⟩

theorem zero9 (w : World) : (zeroValue 9).run Trym.prog w = .ok (.string ⟨#[]⟩) w := by kernel_rfl
theorem zero4 (w : World) : (zeroValue 4).run Trym.prog w = .ok (.bool false) w := by kernel_rfl
def kl (s : ByteArray) : Lit := .string s.data.toList
theorem keyS {s : ByteArray} (hs : s.size ≤ maxLen) : keyOf Trym.prog 9 (.string s) = some (kl s) := WideMaps.keyOf_string_mk Trym.underlying9 hs

theorem byt_of {D : DataW Unit} {k : Lit} {v : ByteArray} (h : D.atKey k (.lit (.string [])) = .lit (.string v.data.toList)) : v = byt (gt D k) := by
  cases hg : gt D k with
  | none =>
    rw [gt_at_none hg] at h
    simp only [DataW.lit.injEq, Lit.string.injEq] at h
    obtain ⟨⟨l⟩⟩ := v
    simp at h
    subst h
    rfl
  | some d =>
    rw [gt_at hg] at h
    subst h
    obtain ⟨⟨l⟩⟩ := v
    rfl

theorem look_S {w : World} {b n : Nat} {D : DataW Unit} (h : OwnS w b n D) {s : ByteArray} (hs : s.size ≤ maxLen) :
    (Instr.lookup 26 (.map (some b)) (.string s) true).run Trym.prog w = .ok (.tuple #[.string (byt (gt D (kl s))), .bool (gt D (kl s)).isSome]) w := by
  obtain ⟨v, ps, hrun, hv⟩ := World.ownsMap.look_ok h law Trym.underlying26 (zero9 w) (plainElem_string (s := ⟨#[]⟩) Trym.underlying9 (by decide)) (keyS hs)
  obtain ⟨x, rfl, hx, _⟩ := plainElem_string_inv Trym.underlying9 hv
  rw [hrun, gt_isSome, ← byt_of (congrArg Prod.fst hx)]

theorem look_S0 {w : World} {b n : Nat} {D : DataW Unit} (h : OwnS w b n D) {s : ByteArray} (hs : s.size ≤ maxLen) :
    (Instr.lookup 26 (.map (some b)) (.string s) false).run Trym.prog w = .ok (.string (byt (gt D (kl s)))) w := by
  obtain ⟨v, ps, hrun, hv⟩ := World.ownsMap.lookup h law Trym.underlying26 (zero9 w) (plainElem_string (s := ⟨#[]⟩) Trym.underlying9 (by decide)) (keyS hs)
  obtain ⟨x, rfl, hx, _⟩ := plainElem_string_inv Trym.underlying9 hv
  rw [hrun, ← byt_of (congrArg Prod.fst hx)]

theorem plainElem_bool_inv {v : Value} {z : DataW Unit × List MemPlace} (h : plainElem Trym.prog 4 v = some z) : ∃ x, v = .bool x ∧ z = (.lit (.bool x), []) := by
  unfold plainElem at h
  rw [Trym.underlying4] at h
  cases v <;> simp at h
  exact ⟨_, rfl, h.symm⟩

theorem look_B {w : World} {b n : Nat} {D : DataW Unit} (h : OwnB w b n D) {s : ByteArray} (hs : s.size ≤ maxLen) :
    ∃ x, (Instr.lookup 28 (.map (some b)) (.string s) true).run Trym.prog w = .ok (.tuple #[.bool x, .bool (Maps.has D (kl s))]) w := by
  obtain ⟨v, ps, hrun, hv⟩ := World.ownsMap.look_ok h law Trym.underlying28 (zero4 w) (plainElem_bool Trym.underlying4 false) (keyS hs)
  obtain ⟨x, rfl, _⟩ := plainElem_bool_inv hv
  exact ⟨x, hrun⟩

theorem look_B0 {w : World} {b n : Nat} {D : DataW Unit} (h : OwnB w b n D) {s : ByteArray} (hs : s.size ≤ maxLen) :
    ∃ x, (Instr.lookup 28 (.map (some b)) (.string s) false).run Trym.prog w = .ok (.bool x) w ∧ D.atKey (kl s) (.lit (.bool false)) = .lit (.bool x) := by
  obtain ⟨v, ps, hrun, hv⟩ := World.ownsMap.lookup h law Trym.underlying28 (zero4 w) (plainElem_bool Trym.underlying4 false) (keyS hs)
  obtain ⟨x, rfl, hx⟩ := plainElem_bool_inv hv
  exact ⟨x, hrun, congrArg Prod.fst hx⟩

theorem zoverlay (c : Bool) (bh bs be bd ns ne nd : Nat) (S E D : DataW Unit) (w : World)
    (h0 : w.cell? ⟨bh, 0, none⟩ = some (.bool c)) (h1 : w.cell? ⟨bh, 1, none⟩ = some (.map (some bs))) (h2 : w.cell? ⟨bh, 2, none⟩ = some (.map (some be)))
    (oS : OwnS w bs ns S) (oE : OwnB w be ne E) (oD : OwnS w bd nd D) (n1 : bs ≠ bd) (n2 : be ≠ bd) (n3 : bh ≠ bd) (hm : nd + ns < maxLen) :
    Calls Trym.prog 10 #[.pointer (some ⟨bh, 0, none⟩), .map (some bd)] w fun e w' => e = .returned (.tuple #[]) ∧ w.grownBy w' (some bd) ∧ ∃ D', OwnS w' bd (nd + ns) D' ∧ ∀ k, gt D' k = ov c S E D k := by
  go_enter Trym.func10, Trym.ntmps10
  go_wp2_with (go_at_call 15; refine (overlayT c bh bs be bd ns ne nd S E D _ h0 h1 h2 oS oE oD n1 n2 n3 hm).mono ?_; rintro e w' ⟨rfl, hg, hD⟩)
  go_end0
  exact ⟨rfl, hg, hD⟩

theorem sameF (b1 b2 m1 m2 : Nat) (D1 D2 : DataW Unit) (s : ByteArray) (w : World) (o1 : OwnS w b1 m1 D1) (o2 : OwnS w b2 m2 D2) (hs : s.size ≤ maxLen) (hg : gt D1 (kl s) = gt D2 (kl s)) :
    Calls Trym.prog 13 #[.map (some b1), .map (some b2), .string s] w fun e w' => e = .returned (.bool true) ∧ w' = w := by
  have l1 := look_S o1 hs
  have l2 := look_S o2 hs
  rw [hg] at l1
  clear hg
  go_enter Trym.func13, Trym.ntmps13
  go_wp2
  go_ret
  exact ⟨rfl, rfl⟩

set_option maxHeartbeats 400000 in
theorem model (c : Bool) (bs be bo ms me mo : Nat) (S E O : DataW Unit) (s : ByteArray) (w : World) (oS : OwnS w bs ms S) (oE : OwnB w be me E) (oO : OwnS w bo mo O) (hs : s.size ≤ maxLen) :
    Calls Trym.prog 16 #[.bool c, .map (some bs), .map (some be), .map (some bo), .string s] w fun e w' => e = .returned (.tuple #[.string (byt (ov c S E O (kl s))), .bool (ov c S E O (kl s)).isSome]) ∧ w' = w := by
  have l1 := look_S oS hs
  obtain ⟨x, l2⟩ := look_B oE hs
  have l3 := look_S oO hs
  unfold ov
  cases hS : gt S (kl s) with
  | some v =>
    rw [hS] at l1
    clear hS l3 l2
    go_enter Trym.func16, Trym.ntmps16
    go_wp2
    go_ret2
    exact ⟨rfl, rfl⟩
  | none =>
    rw [hS] at l1
    clear hS
    cases hE : Maps.has E (kl s) with
    | true =>
      rw [hE] at l2
      clear hE
      go_enter Trym.func16, Trym.ntmps16
      go_wp2
      go_ret2
      exact ⟨rfl, rfl⟩
    | false =>
      rw [hE] at l2
      clear hE
      cases c with
      | true =>
        go_enter Trym.func16, Trym.ntmps16
        go_wp2
        go_ret2
        exact ⟨rfl, rfl⟩
      | false =>
        go_enter Trym.func16, Trym.ntmps16
        go_wp2
        go_ret2
        exact ⟨rfl, rfl⟩

set_option maxHeartbeats 400000 in
theorem agrees (c : Bool) (bs be bo bw ms me mo mw : Nat) (S E O W : DataW Unit) (s : ByteArray) (w : World) (oS : OwnS w bs ms S) (oE : OwnB w be me E) (oO : OwnS w bo mo O) (oW : OwnS w bw mw W) (hs : s.size ≤ maxLen)
    (hg : gt W (kl s) = ov c S E O (kl s)) :
    Calls Trym.prog 11 #[.bool c, .map (some bs), .map (some be), .map (some bo), .map (some bw), .string s] w fun e w' => e = .returned (.tuple #[.bool true, .bool (ov c S E O (kl s)).isSome]) ∧ w' = w := by
  have l1 := look_S oW hs
  rw [hg] at l1
  clear hg
  have hc := model c bs be bo ms me mo S E O s w oS oE oO hs
  have HC : Hid (Calls Trym.prog 16 #[.bool c, .map (some bs), .map (some be), .map (some bo), .string s] w fun e w' => e = .returned (.tuple #[.string (byt (ov c S E O (kl s))), .bool (ov c S E O (kl s)).isSome]) ∧ w' = w) := hc
  clear hc
  generalize ov c S E O (kl s) = g at *
  go_enter Trym.func11, Trym.ntmps11
  go_wp2_with (go_at_call 16; refine HC.out.mono ?_; rintro e w' ⟨rfl, rfl⟩)
  go_ret2
  exact ⟨rfl, rfl⟩
end Go.Proofs.Qxb6612669aMods
