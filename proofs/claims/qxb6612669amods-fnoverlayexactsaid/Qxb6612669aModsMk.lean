import Derived.Test.Qxb6612669aModsBase
import Derived.Test.Qxb6612669aModsView
import Derived.RegionTactic
import Derived.BigRegion
namespace Go.Proofs.Qxb6612669aMods
open Go.RowKit
open Go.Maps (Keyed)

theorem law : Keyed Trym.prog 9 := Maps.string_keyed Trym.underlying9
/-- Block b is a map[string]string (map[string]bool) of at most n entries that reads as D. -/
def OwnS (w : World) (b n : Nat) (D : DataW Unit) : Prop := w.ownsMap Trym.prog 9 (plainElem Trym.prog 9) b n D
def OwnB (w : World) (b n : Nat) (D : DataW Unit) : Prop := w.ownsMap Trym.prog 9 (plainElem Trym.prog 4) b n D

def dS (V : Nat → ByteArray) (i : Nat) : DataW Unit := .lit (.string (V i).data.toList)
def dB (B : Nat → Bool) (i : Nat) : DataW Unit := .lit (.bool (B i))

theorem run_makeMap_hint {P : Program} {t k e : TypeId} (ht : P.underlying t = some (.map k e)) (x : Int) (w : World) : (Instr.makeMap t (some (.int .i64 x))).run P w = .ok (.map (some w.heap.size)) (w.alloc (.map #[] 0)) := by
  simp [Instr.makeMap, run_underlying ht, asInt]
  rfl

theorem store_S {w : World} {b n : Nat} {D : DataW Unit} (h : OwnS w b n D) (hn : n < maxLen) {s v : ByteArray} (hs : s.size ≤ maxLen) (hv : v.size ≤ maxLen) :
    ∃ w', (Instr.mapUpdate 26 (.map (some b)) (.string s) (.string v)).run Trym.prog w = .ok () w' ∧ OwnS w' b (n + 1) (D.put (.string s.data.toList) (.lit (.string v.data.toList))) ∧ w.mapTurned w' b :=
  World.ownsMap.store h law Trym.underlying26 hn (WideMaps.keyOf_string_mk Trym.underlying9 hs) (plainElem_string Trym.underlying9 hv)

theorem store_B {w : World} {b n : Nat} {D : DataW Unit} (h : OwnB w b n D) (hn : n < maxLen) {s : ByteArray} (v : Bool) (hs : s.size ≤ maxLen) :
    ∃ w', (Instr.mapUpdate 28 (.map (some b)) (.string s) (.bool v)).run Trym.prog w = .ok () w' ∧ OwnB w' b (n + 1) (D.put (.string s.data.toList) (.lit (.bool v))) ∧ w.mapTurned w' b :=
  World.ownsMap.store h law Trym.underlying28 hn (WideMaps.keyOf_string_mk Trym.underlying9 hs) (plainElem_bool Trym.underlying4 v)

set_option maxHeartbeats 400000 in
theorem kvMap (a : Option Addr) (n c : Nat) (K V : Nat → ByteArray) (w : World) (p : Pr w a n K (fun i => .string (V i))) :
    Calls Trym.prog 7 #[.slice a n c] w fun e w' => e = .returned (.map (some w.heap.size)) ∧ OwnS w' w.heap.size n (fillD K (dS V) n) ∧ Below w.heap.size w w' := by
  have r1 := p.reach
  have hmm := fun x w => run_makeMap_hint (P := Trym.prog) Trym.underlying26 x w
  go_enter Trym.func7, Trym.ntmps7
  go_wp2
  go_loopw [4] (fun i wr => ∃ k : Nat, k ≤ n ∧ i = .int .i64 k ∧ OwnS wr w.heap.size k (fillD K (dS V) k) ∧ Below w.heap.size w wr) (fun i _ => n - (intOf i).toNat)
  case atStart => exact ⟨0, Nat.zero_le _, rfl, World.ownsMap_made _ _ _ _, (Below.refl _ _).alloc (Nat.le_refl _) _⟩
  case round =>
    obtain ⟨k, hk, rfl, hown, hbel⟩ := hrel
    by_cases hlt : k < n
    · obtain ⟨b, off, rfl, ca, cb, hsz⟩ := (p.later hbel).at hlt
      have hvz := p.vsz k hlt _ rfl
      obtain ⟨w1, hrun, hown1, hturn⟩ := store_S (w := wr.drew) (n := k) (s := K k) (v := V k) hown (by unfold maxLen; omega) hsz hvz
      go_wp2
      have HO : Hid (OwnS w1 w.heap.size (k + 1) (fillD K (dS V) (k + 1))) := hown1
      have HB : Hid (Below w.heap.size w w1) := (hbel.drew).grown hturn.grown hbel.size (fun j hj => by cases hj; exact Nat.le_refl _)
      clear hown1 hturn
      go_region
      go_wp2
      go_roundw
      case rel => exact ⟨k + 1, by omega, by go_num, HO.out, HB.out⟩
      case measure => simp [intOf]; omega
    · go_wp2
      go_ret
      obtain rfl : k = n := by omega
      exact ⟨rfl, hown, hbel⟩

set_option maxHeartbeats 400000 in
theorem kbMap (a : Option Addr) (n c : Nat) (K : Nat → ByteArray) (V : Nat → Bool) (w : World) (p : Pr w a n K (fun i => .bool (V i))) :
    Calls Trym.prog 8 #[.slice a n c] w fun e w' => e = .returned (.map (some w.heap.size)) ∧ OwnB w' w.heap.size n (fillD K (dB V) n) ∧ Below w.heap.size w w' := by
  have r1 := p.reach
  have hmm := fun x w => run_makeMap_hint (P := Trym.prog) Trym.underlying28 x w
  go_enter Trym.func8, Trym.ntmps8
  go_wp2
  go_loopw [4] (fun i wr => ∃ k : Nat, k ≤ n ∧ i = .int .i64 k ∧ OwnB wr w.heap.size k (fillD K (dB V) k) ∧ Below w.heap.size w wr) (fun i _ => n - (intOf i).toNat)
  case atStart => exact ⟨0, Nat.zero_le _, rfl, World.ownsMap_made _ _ _ _, (Below.refl _ _).alloc (Nat.le_refl _) _⟩
  case round =>
    obtain ⟨k, hk, rfl, hown, hbel⟩ := hrel
    by_cases hlt : k < n
    · obtain ⟨b, off, rfl, ca, cb, hsz⟩ := (p.later hbel).at hlt
      obtain ⟨w1, hrun, hown1, hturn⟩ := store_B (w := wr.drew) (n := k) (s := K k) hown (by unfold maxLen; omega) (V k) hsz
      go_wp2
      have HO : Hid (OwnB w1 w.heap.size (k + 1) (fillD K (dB V) (k + 1))) := hown1
      have HB : Hid (Below w.heap.size w w1) := (hbel.drew).grown hturn.grown hbel.size (fun j hj => by cases hj; exact Nat.le_refl _)
      clear hown1 hturn
      go_region
      go_wp2
      go_roundw
      case rel => exact ⟨k + 1, by omega, by go_num, HO.out, HB.out⟩
      case measure => simp [intOf]; omega
    · go_wp2
      go_ret
      obtain rfl : k = n := by omega
      exact ⟨rfl, hown, hbel⟩
end Go.Proofs.Qxb6612669aMods
