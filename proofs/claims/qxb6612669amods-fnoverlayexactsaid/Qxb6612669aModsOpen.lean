import Derived.Test.Qxb6612669aModsRows
import Derived.Test.Qxb6612669aModsBase
import Derived.ProofKit
import Derived.SizedLaws
import Derived.Deep.SlicePairs
namespace Go.Proofs.Qxb6612669aMods
open Go.ChangeShapes Go.WideShapes Go.ChangeAt Go.RowKit Go.Deep

theorem own : ownKnob Trym.prog.godebug = none := by kernel_rfl
theorem laidOut : laidOutB Trym.prog = true := by kernel_rfl
theorem Trym.cells34 : Trym.prog.cellsOf 34 = 2 := by kernel_rfl
theorem Trym.cells38 : Trym.prog.cellsOf 38 = 2 := by kernel_rfl
theorem Trym.cells9 : Trym.prog.cellsOf 9 = 1 := by kernel_rfl
theorem Trym.cells4 : Trym.prog.cellsOf 4 = 1 := by kernel_rfl
theorem Trym.bytes34 : Trym.prog.bytesOf 34 = 32 := by kernel_rfl
theorem Trym.bytes38 : Trym.prog.bytesOf 38 = 24 := by kernel_rfl

theorem pr_of {W : World} {a : Addr} {len cap : Nat} {V0 V1 : Nat → Value} (hl : len ≤ cap) (hr : len * 24 ≤ 140737488351232)
    (hc : ∀ i, i < cap → W.cell? (a.add (i * 2)) = some (V0 i) ∧ W.cell? (a.add (i * 2 + 1)) = some (V1 i) ∧ (∃ s : ByteArray, V0 i = .string s ∧ s.size ≤ maxLen) ∧ ∀ s : ByteArray, V1 i = .string s → s.size ≤ maxLen) :
    ∃ K, Pr W (some a) len K V1 := by
  have hk : ∀ i, i < cap → ∃ s : ByteArray, V0 i = .string s ∧ s.size ≤ maxLen := fun i hi => (hc i hi).2.2.1
  obtain ⟨K, hK⟩ := choose_lt hk
  refine ⟨K, hr, fun h0 => ?_, fun i hi => (hK i (by omega)).2, fun i hi s hs => (hc i (by omega)).2.2.2 s hs⟩
  obtain ⟨b, off, spot⟩ := a
  have c0 := (hc 0 (by omega)).1
  have hspot : spot = none := by simpa [Addr.add] using World.cell?_spot c0
  subst hspot
  refine ⟨b, off, rfl, block_lt_of_cell c0, fun i hi => ⟨?_, ?_⟩⟩
  · have := (hc i (by omega)).1
    rw [(hK i (by omega)).1, Addr.add_lit] at this
    exact this
  · have := (hc i (by omega)).2.1
    rw [Addr.add_lit] at this
    exact this

theorem pr_nil (W : World) (V : Nat → Value) : Pr W none 0 (fun _ => ⟨#[]⟩) V := ⟨by omega, fun h => absurd h (by omega), fun i hi => absurd hi (by omega), fun i hi => absurd hi (by omega)⟩

theorem open_kv {H : Type} {enc : TypeId × Value → H} {W : World} {a : Option Addr} {len cap : Nat} {d : DataW H} {p : List MemPlace} (h : DataW.Trod enc Trym.prog W 0 (fun _ => true) true 22 (.slice a len cap) d p)
    (hr : ∀ el sp, d = .slice el sp → (el.length + sp.length) * 32 ≤ reachBytes) : ∃ K V : Nat → ByteArray, Pr W a len K (fun i => .string (V i)) := by
  obtain ⟨fuel, hf⟩ := h
  rcases open_slice_pairs Trym.underlying22 Trym.underlying34 Trym.cells34 rfl rfl Trym.cells9 Trym.cells9 hf with ⟨hcs, _⟩ | ⟨ad, l, c, m, n, V0, V1, D0, D1, P0, P1, hcs, _, hl, hm, hmm, hx, hc⟩
  · simp [Value.cells] at hcs
    obtain ⟨rfl, rfl, rfl⟩ := hcs
    exact ⟨_, fun _ => ⟨#[]⟩, pr_nil W _⟩
  · simp [Value.cells] at hcs
    obtain ⟨rfl, rfl, rfl⟩ := hcs
    simp only [if_true] at hmm
    subst hmm
    have hr1 := hr _ _ (congrArg Prod.fst hx)
    simp [reachBytes] at hr1
    have hv : ∀ i, i < m → ∃ s : ByteArray, V1 i = .string s ∧ s.size ≤ maxLen := fun i hi => by
      obtain ⟨s, hs, _, hz⟩ := DataW.trod_string Trym.underlying9 (hc i hi).2.2.2
      exact ⟨s, by simpa using hs, hz⟩
    obtain ⟨V, hV⟩ := choose_lt hv
    obtain ⟨K, hP⟩ := pr_of (W := W) (a := ad) (len := len) (cap := m) (V0 := V0) (V1 := fun i => .string (V i)) hl (by omega) (fun i hi => by
      obtain ⟨s, hs, _, hz⟩ := DataW.trod_string Trym.underlying9 (hc i hi).2.2.1
      refine ⟨(hc i hi).1, ?_, ⟨s, by simpa using hs, hz⟩, fun s' hs' => ?_⟩
      · rw [(hc i hi).2.1, (hV i hi).1]
      · cases hs'; exact (hV i hi).2)
    exact ⟨K, V, hP⟩

theorem open_kb {H : Type} {enc : TypeId × Value → H} {W : World} {a : Option Addr} {len cap : Nat} {d : DataW H} {p : List MemPlace} (h : DataW.Trod enc Trym.prog W 0 (fun _ => true) true 23 (.slice a len cap) d p)
    (hr : ∀ el sp, d = .slice el sp → (el.length + sp.length) * 24 ≤ reachBytes) : ∃ (K : Nat → ByteArray) (V : Nat → Bool), Pr W a len K (fun i => .bool (V i)) := by
  obtain ⟨fuel, hf⟩ := h
  rcases open_slice_pairs Trym.underlying23 Trym.underlying38 Trym.cells38 rfl rfl Trym.cells9 Trym.cells4 hf with ⟨hcs, _⟩ | ⟨ad, l, c, m, n, V0, V1, D0, D1, P0, P1, hcs, _, hl, hm, hmm, hx, hc⟩
  · simp [Value.cells] at hcs
    obtain ⟨rfl, rfl, rfl⟩ := hcs
    exact ⟨_, fun _ => false, pr_nil W _⟩
  · simp [Value.cells] at hcs
    obtain ⟨rfl, rfl, rfl⟩ := hcs
    simp only [if_true] at hmm
    subst hmm
    have hr1 := hr _ _ (congrArg Prod.fst hx)
    simp [reachBytes] at hr1
    have hv : ∀ i, i < m → ∃ x : Bool, V1 i = .bool x := fun i hi => by
      obtain ⟨x, hs, _⟩ := DataW.trod_bool Trym.underlying4 (hc i hi).2.2.2
      exact ⟨x, by simpa using hs⟩
    obtain ⟨V, hV⟩ := choose_lt hv
    obtain ⟨K, hP⟩ := pr_of (W := W) (a := ad) (len := len) (cap := m) (V0 := V0) (V1 := fun i => .bool (V i)) hl (by omega) (fun i hi => by
      obtain ⟨s, hs, _, hz⟩ := DataW.trod_string Trym.underlying9 (hc i hi).2.2.1
      refine ⟨(hc i hi).1, ?_, ⟨s, by simpa using hs, hz⟩, fun s' hs' => by cases hs'⟩
      rw [(hc i hi).2.1, hV i hi])
    exact ⟨K, V, hP⟩
end Go.Proofs.Qxb6612669aMods
