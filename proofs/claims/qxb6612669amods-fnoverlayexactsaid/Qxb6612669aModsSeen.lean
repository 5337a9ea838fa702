import Derived.Test.Qxb6612669aModsLook
import Derived.Test.Qxb6612669aModsBig
namespace Go.Proofs.Qxb6612669aMods
open Go.RowKit

/-- Block b is the map of the fields seen so far: just those on L, each with true; x of them are kept. -/
structure Seen (w : World) (b m : Nat) (keep : Lit → Bool) (L : List Lit) (x : Int) : Prop where
  own : ∃ D, OwnB w b m D ∧ (∀ k, Maps.has D k = true ↔ k ∈ L) ∧ ∀ k, Maps.has D k = true → ∀ z, D.atKey k z = .lit (.bool true)
  nodup : L.Nodup
  count : x = ((L.filter keep).length : Int)
  size : L.length ≤ m

theorem seen_start (w : World) (keep : Lit → Bool) : Seen (w.alloc (.map #[] 0)) w.heap.size 0 keep [] 0 :=
  ⟨⟨.map [], World.ownsMap_made _ _ _ _, fun k => by simp [Maps.has], fun k hk => by cases hk⟩, List.nodup_nil, rfl, Nat.le_refl _⟩

theorem Seen.bd {w : World} {b m : Nat} {keep : Lit → Bool} {L : List Lit} {x : Int} (h : Seen w b m keep L x) : 0 ≤ x ∧ x ≤ m := by
  have h1 := h.count
  have h2 := h.size
  have h3 := List.length_filter_le keep L
  omega

theorem Seen.yes {w : World} {b m : Nat} {keep : Lit → Bool} {L : List Lit} {x : Int} (h : Seen w b m keep L x) {s : ByteArray} (hs : s.size ≤ maxLen) (hk : kl s ∈ L) :
    (Instr.lookup 28 (.map (some b)) (.string s) false).run Trym.prog w = .ok (.bool true) w := by
  obtain ⟨D, hD, h1, h2⟩ := h.own
  obtain ⟨y, hrun, hat⟩ := look_B0 hD hs
  rw [h2 _ ((h1 _).2 hk)] at hat
  cases hat
  exact hrun

theorem Seen.no {w : World} {b m : Nat} {keep : Lit → Bool} {L : List Lit} {x : Int} (h : Seen w b m keep L x) {s : ByteArray} (hs : s.size ≤ maxLen) (hk : kl s ∉ L) :
    (Instr.lookup 28 (.map (some b)) (.string s) false).run Trym.prog w = .ok (.bool false) w := by
  obtain ⟨D, hD, h1, _⟩ := h.own
  obtain ⟨y, hrun, hat⟩ := look_B0 hD hs
  have hn : Maps.has D (kl s) = false := by
    cases hh : Maps.has D (kl s)
    · rfl
    · exact absurd ((h1 _).1 hh) hk
  rw [Maps.atKey_of_not_has hn] at hat
  cases hat
  exact hrun

theorem Seen.add {w : World} {b m : Nat} {keep : Lit → Bool} {L : List Lit} {x : Int} (h : Seen w b m keep L x) {s : ByteArray} (hs : s.size ≤ maxLen) (hk : kl s ∉ L) (hm : m < maxLen) :
    ∃ w', (Instr.mapUpdate 28 (.map (some b)) (.string s) (.bool true)).run Trym.prog w = .ok () w' ∧ w.mapTurned w' b ∧ Seen w' b (m + 1) keep (L ++ [kl s]) (x + if keep (kl s) then 1 else 0) := by
  obtain ⟨D, hD, h1, h2⟩ := h.own
  obtain ⟨w', hrun, hD', hturn⟩ := store_B hD hm true hs
  have hki : WideAt.IsKeyLit (kl s) := trivial
  change OwnB w' b (m + 1) (D.put (kl s) (.lit (.bool true))) at hD'
  refine ⟨w', hrun, hturn, ⟨⟨_, hD', fun k => ?_, fun k hk' z => ?_⟩, ?_, ?_, ?_⟩⟩
  · by_cases e : k = kl s
    · subst e
      exact ⟨fun _ => by simp, fun _ => Maps.has_put_same (World.ownsMap.isMap hD) hki _⟩
    · rw [Maps.has_put_other e, h1]
      simp [e]
  · by_cases e : k = kl s
    · subst e
      exact Maps.atKey_put_same (World.ownsMap.isMap hD) hki _ _
    · rw [Maps.has_put_other e] at hk'
      rw [Maps.atKey_put_other e]
      exact h2 k hk' z
  · rw [List.nodup_append]
    refine ⟨h.nodup, by simp, fun a ha b hb e => ?_⟩
    simp only [List.mem_singleton] at hb
    subst hb
    exact hk (e ▸ ha)
  · rw [List.filter_append, List.length_append, h.count]
    cases hkk : keep (kl s) <;> simp [hkk]
  · have := h.size
    simp; omega

/-- THE COUNT: whatever is kept has been seen: then as many are in the map as were counted. -/
theorem size_count {D : DataW Unit} {L : List Lit} {f : Lit → Option (DataW Unit)} (hD : Maps.Canon D) (hf : ∀ k, gt D k = f k) (hL : L.Nodup) (hin : ∀ k, (f k).isSome = true → k ∈ L) :
    (Maps.size D : Int) = ((L.filter fun k => (f k).isSome).length : Int) := by
  obtain ⟨es, rfl, hp, hkey⟩ := hD
  have hnd : (es.map Prod.fst).Nodup := by
    unfold List.Nodup
    rw [List.pairwise_map]
    exact Maps.apart_of_rising hp
  have hperm : (es.map Prod.fst).Perm (L.filter fun k => (f k).isSome) := by
    refine (List.perm_ext_iff_of_nodup hnd (hL.filter _)).2 fun k => ?_
    rw [List.mem_filter, ← hf k, gt_isSome]
    constructor
    · intro hk
      obtain ⟨p, hpm, rfl⟩ := List.mem_map.1 hk
      have hh : Maps.has (.map es) p.1 = true := List.any_eq_true.2 ⟨p, hpm, WideAt.sameKey_self (hkey p hpm)⟩
      exact ⟨hin _ (by rw [← hf, gt_isSome, hh]), hh⟩
    · rintro ⟨_, hh⟩
      obtain ⟨p, hpm, hs⟩ := List.any_eq_true.1 hh
      exact List.mem_map.2 ⟨p, hpm, WideAt.sameKey_eq hs⟩
  have := hperm.length_eq
  rw [List.length_map] at this
  show ((es.length : Nat) : Int) = _
  omega

/-- What is kept is a set or a stored field. -/
theorem kept_in {c : Bool} {K1 K3 : Nat → ByteArray} {d1 d3 : Nat → DataW Unit} {n1 n3 : Nat} {E : DataW Unit} {k : Lit} (h : (ov c (fillD K1 d1 n1) E (fillD K3 d3 n3) k).isSome = true) :
    (∃ i, i < n1 ∧ k = kl (K1 i)) ∨ ∃ i, i < n3 ∧ k = kl (K3 i) := by
  unfold ov at h
  cases hS : gt (fillD K1 d1 n1) k with
  | some v => obtain ⟨i, hi, hk, _⟩ := gt_fillD K1 d1 k v n1 hS; exact .inl ⟨i, hi, hk⟩
  | none =>
    rw [hS] at h
    simp only at h
    split at h
    · cases h
    · split at h
      · cases h
      · obtain ⟨v, hv⟩ := Option.isSome_iff_exists.1 h
        obtain ⟨i, hi, hk, _⟩ := gt_fillD K3 d3 k v n3 hv; exact .inr ⟨i, hi, hk⟩

theorem Seen.mono {w : World} {b m m' : Nat} {keep : Lit → Bool} {L : List Lit} {x : Int} (h : Seen w b m keep L x) (hm : m ≤ m') : Seen w b m' keep L x := by
  obtain ⟨D, hD, r⟩ := h.own
  exact ⟨⟨D, World.ownsMap.mono hD hm, r⟩, h.nodup, h.count, Nat.le_trans h.size hm⟩

/-- Is the field kept? -/
def keepF (c : Bool) (n1 n2 n3 : Nat) (K1 K2 K3 V1 V3 : Nat → ByteArray) (B2 : Nat → Bool) (k : Lit) : Bool := (ov c (fillD K1 (dS V1) n1) (fillD K2 (dB B2) n2) (fillD K3 (dS V3) n3) k).isSome

/-- The four maps that a round reads. -/
structure Four (w : World) (bs be bo bw ms me mo mw : Nat) (S E O W : DataW Unit) : Prop where
  s : OwnS w bs ms S
  e : OwnB w be me E
  o : OwnS w bo mo O
  w : OwnS w bw mw W

theorem Four.turned {w w' : World} {bs be bo bw ms me mo mw b : Nat} {S E O W : DataW Unit} (h : Four w bs be bo bw ms me mo mw S E O W) (ht : w.mapTurned w' b) (h1 : bs ≠ b) (h2 : be ≠ b) (h3 : bo ≠ b) (h4 : bw ≠ b) : Four w' bs be bo bw ms me mo mw S E O W :=
  ⟨World.ownsMap.kept h.s ht.grown (fun e => h1 (Option.some.inj e)), World.ownsMap.kept h.e ht.grown (fun e => h2 (Option.some.inj e)), World.ownsMap.kept h.o ht.grown (fun e => h3 (Option.some.inj e)), World.ownsMap.kept h.w ht.grown (fun e => h4 (Option.some.inj e))⟩

theorem in_snoc {L : List Lit} {K : Nat → ByteArray} {k : Nat} {s : Lit} (h : ∀ j, j < k → kl (K j) ∈ L) (hs : s = kl (K k)) : ∀ j, j < k + 1 → kl (K j) ∈ L ++ [s] := by
  intro j hj
  by_cases e : j = k
  · subst e; simp [hs]
  · exact List.mem_append_left _ (h j (by omega))

theorem in_same {L : List Lit} {K : Nat → ByteArray} {k : Nat} (h : ∀ j, j < k → kl (K j) ∈ L) (hs : kl (K k) ∈ L) : ∀ j, j < k + 1 → kl (K j) ∈ L := by
  intro j hj
  by_cases e : j = k
  · subst e; exact hs
  · exact h j (by omega)

theorem in_more {L : List Lit} {K : Nat → ByteArray} {k : Nat} {s : Lit} (h : ∀ j, j < k → kl (K j) ∈ L) : ∀ j, j < k → kl (K j) ∈ L ++ [s] := fun j hj => List.mem_append_left _ (h j hj)
end Go.Proofs.Qxb6612669aMods
