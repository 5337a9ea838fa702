import Derived.Test.Qxb6612698aModsRows
import Derived.Test.Qxb6612698aModsRow
import Derived.ProofKit
import Derived.OpenShut
import Derived.ShutString
import Derived.Deep.Slices
namespace Go.Proofs.Qxb6612698aMods
open Go.ChangeShapes Go.WideShapes Go.ChangeAt Go.RowKit Go.Deep

theorem own : ownKnob Trym.prog.godebug = none := by kernel_rfl
theorem laidOut : laidOutB Trym.prog = true := by kernel_rfl
theorem Trym.cells23 : Trym.prog.cellsOf 23 = 1024 := by kernel_rfl
theorem Trym.cells22 : Trym.prog.cellsOf 22 = 1 := by kernel_rfl

/-- The zero array. -/
def z0 : Array Value := Array.replicate 1024 (.int .u64 0)
theorem z0_words : Words z0 (fun _ => 0) := ⟨by simp [z0], fun i hi => by unfold z0; rw [Array.getElem?_replicate, if_pos hi]; rfl⟩
theorem zero_info : (Trym.prog.info? 23).map (·.zero) = some (some (.agg z0)) := by kernel_rfl
theorem zero_run (w : World) : (zeroValue 23).run Trym.prog w = .ok (.agg z0) w := by
  cases hq : Trym.prog.info? 23 with
  | none => have := zero_info; rw [hq] at this; cases this
  | some i =>
    have := zero_info
    rw [hq] at this
    have hz : i.zero = some (.agg z0) := by simpa using this
    simp [zeroValue, typeInfo, hq, hz]

theorem open_words {H : Type} {enc : TypeId × Value → H} {W : World} {base : Nat} {v : Value} {d : DataW H} {p : List MemPlace} (hv : Value.okWide Trym.prog W .any base 23 v) (h : DataW.Trod enc Trym.prog W 0 (fun _ => true) true 23 v d p) :
    ∃ (cs : Array Value) (S : Nat → Nat), v = .agg cs ∧ Words cs S ∧ ∀ i, i < 1024 → S i < 18446744073709551616 := by
  simp only [Value.okWide, Trym.underlying23] at hv
  obtain ⟨cs, rfl, hsz, _⟩ := hv
  rw [Trym.cells23] at hsz
  obtain ⟨fuel, hf⟩ := h
  obtain ⟨xs, m, _, _, hl, hx, he⟩ := DataW.trod_array Trym.underlying23 hf
  have each : ∀ i, i < 1024 → ∃ n : Nat, cs[i]? = some (.int .u64 n) ∧ n < 18446744073709551616 := by
    intro i hi
    have h1 := he i hi
    rw [Trym.cells22, Nat.mul_one, List.getElem?_eq_getElem (by omega)] at h1
    obtain ⟨n, hn, _, hw⟩ := DataW.trod_int Trym.underlying22 h1
    obtain ⟨b1, b2⟩ := bounds_u64 hw
    refine ⟨n.toNat, ?_, by omega⟩
    rw [Int.toNat_of_nonneg b1]
    have hc : (Value.agg cs).cells.toList = cs.toList := rfl
    rw [hc, List.drop_eq_getElem_cons (by rw [Array.length_toList]; omega)] at hn
    simp at hn
    rw [Array.getElem?_eq_getElem (by omega), hn]
  obtain ⟨S, hS⟩ := choose_lt each
  exact ⟨cs, S, rfl, ⟨hsz, fun i hi => (hS i hi).1⟩, fun i hi => (hS i hi).2⟩
end Go.Proofs.Qxb6612698aMods
