import Derived.Test.Qxb6612698aModsRows
import Derived.Test.Qxb6612698aModsOpen
import Derived.WalkKit
import Derived.ProofKit
import Derived.OpenShut
import Derived.ShutString
import Derived.ChangeOld
import Derived.Below
namespace Go.Proofs.Qxb6612698aMods
open Go.ChangeShapes Go.WideShapes Go.ChangeAt Go.RowKit Go.Deep

/-- What the zero array reads as. -/
def dz {H : Type} : DataW H := .agg (((List.range 1024).map fun _ => ((DataW.lit (.int .u64 0) : DataW H), ([] : List MemPlace))).map (·.1))

theorem z0_one (i : Nat) (hi : i < 1024) : (z0.toList.drop (i * 1)).take 1 = [.int .u64 0] := by
  have hz : z0.toList = List.replicate 1024 (.int .u64 0) := by unfold z0; exact Array.toList_replicate
  rw [hz, Nat.mul_one, List.drop_replicate, List.take_replicate]
  have : min 1 (1024 - i) = 1 := by omega
  rw [this]; rfl

theorem flat_nil {α β : Type} {x : β} : ∀ l : List α, (l.map fun _ => ((x : β), ([] : List MemPlace))).flatMap (·.2) = []
  | [] => rfl
  | _ :: r => by rw [List.map_cons, List.flatMap_cons, flat_nil r]; rfl

theorem shut_z0 {H : Type} {enc : TypeId × Value → H} {W : World} {base : Nat} {sp : Nat → Bool} {held : Bool} : DataW.Trod enc Trym.prog W base sp held 23 (.agg z0) dz [] := by
  refine ⟨2, ?_⟩
  have hm := mapM_range_of (f := fun i => DataW.trod enc Trym.prog W base sp held 1 22 (((Value.agg z0).cells.toList.drop (i * Trym.prog.cellsOf 22)).take (Trym.prog.cellsOf 22)))
    (g := fun _ => (DataW.lit (.int .u64 0), ([] : List MemPlace))) 1024 (fun i hi => by
      show DataW.trod enc Trym.prog W base sp held 1 22 ((z0.toList.drop (i * Trym.prog.cellsOf 22)).take (Trym.prog.cellsOf 22)) = _
      rw [Trym.cells22, z0_one i hi]
      unfold DataW.trod
      rw [Trym.underlying22]
      rfl)
  have hl : (Value.agg z0).cells.toList.length = Trym.prog.cellsOf 23 := by
    rw [Trym.cells23]
    show z0.toList.length = 1024
    rw [Array.length_toList]
    exact z0_words.1
  unfold DataW.trod
  rw [Trym.underlying23]
  show (if (Value.agg z0).cells.toList.length = Trym.prog.cellsOf 23 then _ else _) = _
  rw [if_pos hl, hm]
  show some (DataW.agg _, _) = _
  rw [flat_nil]
  rfl

theorem ok21 (W : World) (base : Nat) : Value.okWide Trym.prog W .any base 21 (.int .i32 0) := by
  simp [Value.okWide, Trym.underlying21, Cell.okWide, Cell.ok, IntKind.has]
  decide

theorem types23 : Trym.prog.cellTypes Trym.prog.depth 23 = some (List.replicate 1024 22) := by kernel_rfl

theorem ok23 (W : World) (base : Nat) : Value.okWide Trym.prog W .any base 23 (.agg z0) := by
  simp only [Value.okWide, Trym.underlying23]
  refine ⟨z0, rfl, by rw [Trym.cells23]; exact z0_words.1, _, types23, ⟨1, by rw [List.length_replicate, Nat.one_mul]; exact z0_words.1⟩, fun i v hv => ⟨22, ?_, ?_⟩⟩
  · rw [List.length_replicate, List.getElem?_replicate, if_pos (Nat.mod_lt _ (by omega))]
  · have hi : i < 1024 := by have := (Array.getElem?_eq_some_iff.1 hv).1; rwa [z0_words.1] at this
    rw [z0_words.2 i hi] at hv
    obtain rfl := Option.some.inj hv
    simp [Cell.okWide, Trym.underlying22, Cell.ok, IntKind.has]
    decide

theorem weights_nil {H : Type} (t : TypeId) : ∀ l : List Nat, DataW.weightsAll (H := H) Trym.prog t ((l.map fun _ => ((DataW.lit (.int .u64 0) : DataW H), ([] : List MemPlace))).map (·.1)) = []
  | [] => by simp [DataW.weightsAll]
  | _ :: r => by rw [List.map_cons, List.map_cons, DataW.weightsAll, weights_nil t r]; simp [DataW.weights]

theorem weights_dz {H : Type} : (dz : DataW H).weights Trym.prog 23 = [] := by
  unfold dz
  rw [DataW.weights, Trym.underlying23]
  exact weights_nil 22 _

theorem at3 {α : Type} {P : α → Prop} {a b c : α} {j : Nat} {v : α} (hv : #[a, b, c][j]? = some v) (ha : j = 0 → P a) (hb : j = 1 → P b) (hc : j = 2 → P c) : P v := by
  match j, hv with
  | 0, hv => obtain rfl := Option.some.inj hv; exact ha rfl
  | 1, hv => obtain rfl := Option.some.inj hv; exact hb rfl
  | 2, hv => obtain rfl := Option.some.inj hv; exact hc rfl
  | (j + 3), hv => cases hv

section
variable {H : Type} {enc : TypeId × Value → H}

theorem whole3 (W : World) : DataW.Whole enc Trym.prog [23, 21, 21] [] false W [.agg z0, .int .i32 0, .int .i32 0] [dz, .lit (.int .i32 0), .lit (.int .i32 0)] [] [] :=
  ⟨[], [], trodAll_cons_mk shut_z0 (trodAll_cons_mk (shut_int Trym.underlying21 (by decide)) (trodAll_cons_mk (shut_int Trym.underlying21 (by decide)) trodAll_mk0)), rfl, rfl, fun _ _ h => (nomatch h), fun h => by cases h⟩

theorem whole4 (W : World) : DataW.Whole enc Trym.prog [23, 23, 21] [] false W [.agg z0, .agg z0, .int .i32 0] [dz, dz, .lit (.int .i32 0)] [] [] :=
  ⟨[], [], trodAll_cons_mk shut_z0 (trodAll_cons_mk shut_z0 (trodAll_cons_mk (shut_int Trym.underlying21 (by decide)) trodAll_mk0)), rfl, rfl, fun _ _ h => (nomatch h), fun h => by cases h⟩

theorem wit3 (os : Os) : ∃ (w : World) (tape : Tape) (i : Input), w.os = os ∧ (w.forCall tape i).Shaped Trym.prog ∧ i.vars = [] ∧ Input.okWide Trym.prog (w.forCall tape i) .any w.heap.size 3 i ∧
      Rows.fnBmpHasToggleOneBitSpec.pre6 enc Trym.prog Trym.f3 Rows.fnBmpHasToggleOneBitRow.domain false (w.forCall tape i).memory i.args ∧ ({} : Assume).holds Trym.prog (lone (Frame.enter Trym.prog 3 i.args .normal) [] (w.forCall tape i)) := by
  refine ⟨World.holding Trym.prog os ⟨#[], #[.agg z0, .int .i32 0, .int .i32 0], []⟩, fun _ _ => 0, ⟨#[], #[.agg z0, .int .i32 0, .int .i32 0], []⟩, rfl,
    World.shaped_of_B (by kernel_rfl) (by kernel_rfl), rfl,
    ⟨fun o ho => by simp at ho, fun o ho => by simp at ho, by kernel_rfl, Trym.f3, Trym.func3, rfl, rfl, rfl, rfl, ?_⟩, ⟨⟨_, _, _, whole3 _, rfl⟩, ⟨by kernel_rfl, _, _, _, whole3 _, ?_⟩⟩, ?_⟩
  · intro j t v ht hv
    have ht' : #[23, 21, 21][j]? = some t := by rw [← Trym.params3]; exact ht
    refine at3 hv (fun e => ?_) (fun e => ?_) (fun e => ?_)
    all_goals
      subst e
      obtain rfl := Option.some.inj ht'
      first | exact ok23 _ _ | exact ok21 _ _
  · show (DataW.weightsEach Trym.prog [23, 21, 21] [dz, .lit (.int .i32 0), .lit (.int .i32 0)]).all _ = true
    rw [DataW.weightsEach, weights_dz]
    rfl
  · simp only [Assume.holds]
    exact ⟨by simp, by simp, fun _ => Modest.zero, by simp, by simp⟩

theorem wit4 (os : Os) : ∃ (w : World) (tape : Tape) (i : Input), w.os = os ∧ (w.forCall tape i).Shaped Trym.prog ∧ i.vars = [] ∧ Input.okWide Trym.prog (w.forCall tape i) .any w.heap.size 4 i ∧
      Rows.fnBmpHasComplementAndUnionSpec.pre6 enc Trym.prog Trym.f4 Rows.fnBmpHasComplementAndUnionRow.domain false (w.forCall tape i).memory i.args ∧ ({} : Assume).holds Trym.prog (lone (Frame.enter Trym.prog 4 i.args .normal) [] (w.forCall tape i)) := by
  refine ⟨World.holding Trym.prog os ⟨#[], #[.agg z0, .agg z0, .int .i32 0], []⟩, fun _ _ => 0, ⟨#[], #[.agg z0, .agg z0, .int .i32 0], []⟩, rfl,
    World.shaped_of_B (by kernel_rfl) (by kernel_rfl), rfl,
    ⟨fun o ho => by simp at ho, fun o ho => by simp at ho, by kernel_rfl, Trym.f4, Trym.func4, rfl, rfl, rfl, rfl, ?_⟩, ⟨⟨_, _, _, whole4 _, rfl⟩, ⟨by kernel_rfl, _, _, _, whole4 _, ?_⟩⟩, ?_⟩
  · intro j t v ht hv
    have ht' : #[23, 23, 21][j]? = some t := by rw [← Trym.params4]; exact ht
    refine at3 hv (fun e => ?_) (fun e => ?_) (fun e => ?_)
    all_goals
      subst e
      obtain rfl := Option.some.inj ht'
      first | exact ok23 _ _ | exact ok21 _ _
  · show (DataW.weightsEach Trym.prog [23, 23, 21] [dz, dz, .lit (.int .i32 0)]).all _ = true
    rw [DataW.weightsEach, DataW.weightsEach, weights_dz]
    rfl
  · simp only [Assume.holds]
    exact ⟨by simp, by simp, fun _ => Modest.zero, by simp, by simp⟩
end
end Go.Proofs.Qxb6612698aMods
