import Derived.Maps.OwnSet
import Derived.Maps.Ext
namespace Go.Proofs.Qxb6612669aMods
open Go.Maps (IsMap Tidy Canon)

/-- What a map as read holds at a key. -/
def gt (D : DataW Unit) (k : Lit) : Option (DataW Unit) := if Maps.has D k then some (D.atKey k .nil) else none

theorem gt_isSome (D : DataW Unit) (k : Lit) : (gt D k).isSome = Maps.has D k := by unfold gt; split <;> simp_all

theorem gt_empty (k : Lit) : gt (.map []) k = none := rfl

theorem atKey_has (D : DataW Unit) (k : Lit) (h : Maps.has D k = true) (z z' : DataW Unit) : D.atKey k z = D.atKey k z' := by
  cases D with
  | map es =>
    obtain ⟨p, hp, hpk⟩ := List.any_eq_true.1 h
    have hs : (es.find? (fun p => p.1.sameKey k)).isSome = true := List.find?_isSome.2 ⟨p, hp, hpk⟩
    obtain ⟨x, hx⟩ := Option.isSome_iff_exists.1 hs
    simp [DataW.atKey, hx]
  | _ => cases h

theorem gt_put_same {D : DataW Unit} {k : Lit} (hD : IsMap D) (hk : WideAt.IsKeyLit k) (d : DataW Unit) : gt (D.put k d) k = some d := by
  unfold gt
  rw [Maps.has_put_same hD hk, Maps.atKey_put_same hD hk]
  rfl

theorem gt_put_other {D : DataW Unit} {k k' : Lit} (e : k' ≠ k) (d : DataW Unit) : gt (D.put k d) k' = gt D k' := by
  unfold gt
  rw [Maps.has_put_other e, Maps.atKey_put_other e]

theorem gt_del_same {D : DataW Unit} {k : Lit} : gt (D.del k) k = none := by
  unfold gt
  rw [Maps.has_del_same]
  rfl

theorem gt_del_other {D : DataW Unit} {k k' : Lit} (e : k' ≠ k) : gt (D.del k) k' = gt D k' := by
  unfold gt
  rw [Maps.has_del_other e, Maps.atKey_del_other e]

theorem gt_at {D : DataW Unit} {k : Lit} {d : DataW Unit} (h : gt D k = some d) (z : DataW Unit) : D.atKey k z = d := by
  unfold gt at h
  split at h
  · rename_i hh
    rw [atKey_has D k hh z .nil]
    exact Option.some.inj h
  · cases h

theorem gt_at_none {D : DataW Unit} {k : Lit} (h : gt D k = none) (z : DataW Unit) : D.atKey k z = z := by
  unfold gt at h
  split at h
  · cases h
  · rename_i hh
    exact Maps.atKey_of_not_has (by simpa using hh) z

/-- Two maps as read that hold the same at every key are one. -/
theorem gt_ext {D E : DataW Unit} (c : Canon D) (c' : Canon E) (h : ∀ k, gt D k = gt E k) : D = E := by
  refine Maps.ext c c' (fun k => ?_) (fun k z hk => ?_)
  · rw [← gt_isSome, ← gt_isSome, h k]
  · have hE : Maps.has E k = true := by rw [← gt_isSome, ← h k, gt_isSome, hk]
    have := h k
    unfold gt at this
    rw [hk, hE] at this
    rw [atKey_has D k hk z .nil, atKey_has E k hE z .nil]
    exact Option.some.inj this

/-- The map that the pairs (K i, d i), i below n, fill in their order. -/
def fillD (K : Nat → ByteArray) (d : Nat → DataW Unit) : Nat → DataW Unit
  | 0 => .map []
  | n + 1 => (fillD K d n).put (.string (K n).data.toList) (d n)

theorem fillD_isMap (K : Nat → ByteArray) (d : Nat → DataW Unit) : ∀ n, IsMap (fillD K d n)
  | 0 => ⟨[], rfl⟩
  | n + 1 => (fillD_isMap K d n).put _ _

/-- A key that is there is one of the pairs' keys, and holds one of the pairs' data. -/
theorem gt_fillD (K : Nat → ByteArray) (d : Nat → DataW Unit) (k : Lit) (v : DataW Unit) : ∀ n, gt (fillD K d n) k = some v → ∃ i, i < n ∧ k = .string (K i).data.toList ∧ v = d i
  | 0, h => by cases h
  | n + 1, h => by
    unfold fillD at h
    by_cases e : k = .string (K n).data.toList
    · subst e
      rw [gt_put_same (fillD_isMap K d n) (show WideAt.IsKeyLit (.string _) from trivial)] at h
      exact ⟨n, by omega, rfl, (Option.some.inj h).symm⟩
    · rw [gt_put_other e] at h
      obtain ⟨i, hi, h1, h2⟩ := gt_fillD K d k v n h
      exact ⟨i, by omega, h1, h2⟩

/-- Each of the pairs' keys is there. -/
theorem fillD_has (K : Nat → ByteArray) (d : Nat → DataW Unit) : ∀ n i, i < n → (gt (fillD K d n) (.string (K i).data.toList)).isSome = true
  | 0, i, h => by omega
  | n + 1, i, h => by
    unfold fillD
    by_cases e : Lit.string (K i).data.toList = .string (K n).data.toList
    · rw [e, gt_put_same (fillD_isMap K d n) (show WideAt.IsKeyLit (.string _) from trivial)]
      rfl
    · rw [gt_put_other e]
      have : i ≠ n := fun e' => e (by rw [e'])
      exact fillD_has K d n i (by omega)

/-- WHAT THE OVERLAY LEAVES: what is set; nothing where it is deleted or all was cleared; else what was stored. -/
def ov (c : Bool) (S E D : DataW Unit) (k : Lit) : Option (DataW Unit) :=
  match gt S k with
  | some v => some v
  | none => if Maps.has E k then none else if c then none else gt D k

/-- The first half: cleared, then the deleted fields struck, but for those still to come. -/
def ovDel (c : Bool) (E D : DataW Unit) (left : Lit → Bool) (k : Lit) : Option (DataW Unit) :=
  if Maps.has E k && !left k then none else if c then none else gt D k

/-- The second half: the set fields laid in, but for those still to come. -/
def ovSet (c : Bool) (S E D : DataW Unit) (left : Lit → Bool) (k : Lit) : Option (DataW Unit) :=
  if Maps.has S k && !left k then gt S k else if Maps.has E k then none else if c then none else gt D k

theorem ovDel_start (c : Bool) (E D D0 : DataW Unit) (h : ∀ k, gt D0 k = if c then none else gt D k) (k : Lit) : gt D0 k = ovDel c E D (Maps.has E) k := by
  rw [h k]; unfold ovDel; cases Maps.has E k <;> simp

theorem ovDel_step {c : Bool} {E D Dr : DataW Unit} {left : Lit → Bool} {kl : Lit} (hk : WideAt.IsKeyLit kl) (hE : Maps.has E kl = true) (h : ∀ k, gt Dr k = ovDel c E D left k) (k : Lit) :
    gt (Dr.del kl) k = ovDel c E D (fun z => left z && !z.sameKey kl) k := by
  by_cases e : k = kl
  · subst e
    rw [gt_del_same]
    unfold ovDel
    simp [hE, WideAt.sameKey_self hk]
  · rw [gt_del_other e, h k]
    unfold ovDel
    simp [Maps.sameKey_ne e]

theorem ovDel_end {c : Bool} {E D Dr : DataW Unit} {left : Lit → Bool} (hl : ∀ k, left k = false) (h : ∀ k, gt Dr k = ovDel c E D left k) (S : DataW Unit) (k : Lit) : gt Dr k = ovSet c S E D (Maps.has S) k := by
  rw [h k]; unfold ovDel ovSet; rw [hl k]; cases Maps.has S k <;> simp

theorem ovSet_step {c : Bool} {S E D Dr : DataW Unit} {left : Lit → Bool} {kl : Lit} {d : DataW Unit} (hm : IsMap Dr) (hk : WideAt.IsKeyLit kl) (hat : ∀ zd, S.atKey kl zd = d) (h : ∀ k, gt Dr k = ovSet c S E D left k) (k : Lit) :
    gt (Dr.put kl d) k = ovSet c S E D (fun z => left z && !z.sameKey kl) k := by
  by_cases e : k = kl
  · subst e
    rw [gt_put_same hm hk]
    unfold ovSet gt
    simp [Maps.has_true_of_atKey hat, WideAt.sameKey_self hk, hat]
  · rw [gt_put_other e, h k]
    unfold ovSet
    simp [Maps.sameKey_ne e]

theorem ovSet_end {c : Bool} {S E D Dr : DataW Unit} {left : Lit → Bool} (hl : ∀ k, left k = false) (h : ∀ k, gt Dr k = ovSet c S E D left k) (k : Lit) : gt Dr k = ov c S E D k := by
  rw [h k]; unfold ovSet ov; rw [hl k, ← gt_isSome]; cases gt S k <;> simp

/-- ONCE IS AS TWICE. -/
theorem ov_twice {c : Bool} {S E D D1 D2 : DataW Unit} (h1 : ∀ k, gt D1 k = ov c S E D k) (h2 : ∀ k, gt D2 k = ov c S E D1 k) (k : Lit) : gt D2 k = ov c S E D k := by
  rw [h2 k]
  unfold ov
  rw [h1 k]
  unfold ov
  cases gt S k <;> simp
  cases Maps.has E k <;> simp
  cases c <;> simp
end Go.Proofs.Qxb6612669aMods
