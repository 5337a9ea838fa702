import Derived.Test.Qxb6606257aModsTab
namespace Go.Proofs.Qxb6606257aMods
open Go.RowKit

/-- A function that answers some bool. -/
def AnyBool (e : Ending) : Prop := ∃ r, e = .returned (.bool r)

/-- WHAT THE WALK IS TOLD OF A SLICE OF uint32: its element i is N i. -/
structure Us (w : World) (a : Option Addr) (len : Nat) (N : Nat → Nat) : Prop where
  le : len ≤ maxLen
  nil : a = none → len = 0
  cells : 0 < len → ∃ b off, a = some ⟨b, off, none⟩ ∧ b < w.heap.size ∧ ∀ i, i < len → w.cell? ⟨b, off + i, none⟩ = some (.int .u32 (N i))
  u32 : ∀ i, i < len → N i < 4294967296

theorem Us.later {w w' : World} {a : Option Addr} {len : Nat} {N : Nat → Nat} (h : Us w a len N) (hb : Below w.heap.size w w') : Us w' a len N := by
  refine ⟨h.le, h.nil, fun h0 => ?_, h.u32⟩
  obtain ⟨b, off, ha, hlt, hc⟩ := h.cells h0
  exact ⟨b, off, ha, Nat.lt_of_lt_of_le hlt hb.size, fun i hi => (hb.cell hlt).trans (hc i hi)⟩

theorem Us.at {w : World} {a : Option Addr} {len : Nat} {N : Nat → Nat} (h : Us w a len N) {k : Nat} (hk : k < len) :
    ∃ b off, a = some ⟨b, off, none⟩ ∧ b < w.heap.size ∧ w.cell? ⟨b, off + k, none⟩ = some (.int .u32 (N k)) ∧ N k < 4294967296 := by
  obtain ⟨b, off, ha, hlt, hc⟩ := h.cells (by omega)
  exact ⟨b, off, ha, hlt, hc k hk, h.u32 k hk⟩

/-- Is e among the first k numbers? -/
def inTo (N : Nat → Nat) : Nat → Nat → Bool
  | 0, _ => false
  | k + 1, e => N k == e || inTo N k e

theorem inTo_iff (N : Nat → Nat) (e : Nat) : ∀ k, inTo N k e = true ↔ ∃ j, j < k ∧ N j = e
  | 0 => by simp [inTo]
  | k + 1 => by
    unfold inTo
    rw [Bool.or_eq_true, inTo_iff N e k, beq_iff_eq]
    constructor
    · rintro (h | ⟨j, hj, h⟩)
      · exact ⟨k, by omega, h⟩
      · exact ⟨j, by omega, h⟩
    · rintro ⟨j, hj, h⟩
      by_cases ej : j = k
      · subst ej; exact .inl h
      · exact .inr ⟨j, by omega, h⟩

/-- The marks behind k rounds. -/
def Marks (xs : List Value) (n : Nat) (N : Nat → Nat) (k : Nat) : Prop := xs.length = n ∧ ∀ e, e < n → xs[e]? = some (.bool (inTo N k e))

theorem marks_start (n : Nat) (N : Nat → Nat) : Marks (madeCells (Value.bool false).cells (n * 1)).toList n N 0 := by
  have e : (madeCells (Value.bool false).cells (n * 1)).toList = List.replicate n (.bool false) := by
    rw [Nat.mul_one]; exact toList_madeCells_one (.bool false) n
  rw [e]
  exact ⟨by simp, fun i hi => by rw [List.getElem?_replicate, if_pos hi]; rfl⟩

theorem marks_step {xs : List Value} {n : Nat} {N : Nat → Nat} {k : Nat} (h : Marks xs n N k) (hk : N k < n) : Marks (xs.set (N k) (.bool true)) n N (k + 1) := by
  refine ⟨by rw [List.length_set]; exact h.1, fun e he => ?_⟩
  rw [List.getElem?_set]
  unfold inTo
  by_cases ee : N k = e
  · subst ee
    rw [if_pos rfl, if_pos (by rw [h.1]; exact hk)]
    simp
  · rw [if_neg ee, h.2 e he]
    have : (N k == e) = false := by simpa using ee
    rw [this, Bool.false_or]

theorem dis_step {N : Nat → Nat} {k : Nat} (h : ∀ i j, i < k → j < k → N i = N j → i = j) (hn : inTo N k (N k) = false) : ∀ i j, i < k + 1 → j < k + 1 → N i = N j → i = j := by
  have hno : ∀ j, j < k → N j ≠ N k := fun j hj e => by
    have := (inTo_iff N (N k) k).2 ⟨j, hj, e⟩
    rw [hn] at this; cases this
  intro i j hi hj e
  by_cases ei : i = k
  · by_cases ej : j = k
    · omega
    · subst ei; exact absurd e.symm (hno j (by omega))
  · by_cases ej : j = k
    · subst ej; exact absurd e (hno i (by omega))
    · exact h i j (by omega) (by omega) e

theorem bytes16 (a : Option Addr) (len cap : Nat) (room : Int) (w : World) (hl : len ≤ maxLen) :
    Calls Trym.prog 16 #[.slice a len cap, .int .i64 room] w fun e w' => AnyBool e ∧ w' = w := by
  unfold maxLen at hl
  go_enter Trym.func16, Trym.ntmps16
  go_wp2
  all_goals go_ret
  all_goals exact ⟨⟨_, rfl⟩, rfl⟩

theorem bytes29 (a : Option Addr) (len cap : Nat) (room : Int) (w : World) (hl : len ≤ maxLen) :
    Calls Trym.prog 29 #[.slice a len cap, .int .i64 room] w fun e w' => AnyBool e ∧ w' = w := by
  unfold maxLen at hl
  go_enter Trym.func29, Trym.ntmps29
  go_wp2
  all_goals go_ret
  all_goals exact ⟨⟨_, rfl⟩, rfl⟩

theorem Trym.info4 : (Trym.prog.info? 4).map (fun i => (i.zero, i.size, i.bytes)) = some (some (.bool false), 1, 1) := by kernel_rfl

def PreOk (len : Nat) (N : Nat → Nat) (room : Int) (nch : Nat) : Prop :=
  1 ≤ nch ∧ nch ≤ 16 ∧ (∀ i, i < len → N i < nch * 4096) ∧ (∀ i j, i < len → j < len → N i = N j → i = j) ∧ 0 ≤ room ∧ room ≤ nch

def PreSays (len : Nat) (N : Nat → Nat) (room : Int) (e : Ending) : Prop :=
  (∃ x : Int, e = .returned (.tuple #[.int .i64 x, .bool false])) ∨ ∃ nch : Nat, e = .returned (.tuple #[.int .i64 nch, .bool true]) ∧ PreOk len N room nch

set_option maxRecDepth 100000 in
set_option maxHeartbeats 1000000 in
theorem premise (a : Option Addr) (len cap : Nat) (N : Nat → Nat) (room : Int) (w : World) (hU : Us w a len N) (hl : len ≤ 65536) :
    Calls Trym.prog 17 #[.slice a len cap, .int .i64 room] w fun e w' => PreSays len N room e ∧ Below w.heap.size w w' := by
  obtain ⟨i0, hi, hz0, hz1, hz2⟩ := info_parts Trym.info4
  go_enter Trym.func17, Trym.ntmps17
  go_wp2
  go_loop [6, 7] (fun m i => ∃ k q : Nat, k ≤ len ∧ i = .int .i64 k ∧ m = .int .u32 q ∧ q < 65536 ∧ ∀ j, j < k → N j ≤ q) (fun _ i => len - (intOf i).toNat)
  case atStart => exact ⟨0, 0, Nat.zero_le _, rfl, rfl, by omega, fun j hj => absurd hj (Nat.not_lt_zero _)⟩
  case round =>
    obtain ⟨k, q, hk, rfl, rfl, hq, hN⟩ := hrel
    have HN : Hid (∀ j, j < k → N j ≤ q) := hN
    clear hN
    by_cases hlt : k < len
    · obtain ⟨b, off, rfl, hb, ca, hu⟩ := hU.at hlt
      by_cases h64 : (N k : Int) < 65536
      · have h65 : ¬ ((65536 : Int) ≤ (N k : Int)) := by omega
        by_cases hgt : q < N k
        · go_wp2
          go_round
          case rel => exact ⟨k + 1, N k, by omega, by go_num, rfl, by omega, fun j hj => by by_cases e : j = k; subst e; omega; have := HN.out j (by omega); omega⟩
          case measure => simp [intOf]; omega
        · go_wp2
          go_round
          case rel => exact ⟨k + 1, q, by omega, by go_num, rfl, hq, fun j hj => by by_cases e : j = k; subst e; omega; have := HN.out j (by omega); omega⟩
          case measure => simp [intOf]; omega
      · have h65 : (65536 : Int) ≤ (N k : Int) := by omega
        go_wp2
        go_ret2
        exact ⟨.inl ⟨_, rfl⟩, Below.refl _ _⟩
    · obtain rfl : len = k := by omega
      by_cases hr0 : room < 0
      · go_wp2
        go_ret2
        exact ⟨.inl ⟨_, rfl⟩, Below.refl _ _⟩
      by_cases hr1 : (q : Int) / 4096 + 1 < room
      · go_wp2
        go_ret2
        exact ⟨.inl ⟨_, rfl⟩, Below.refl _ _⟩
      go_wp2_with (first | (at_make; refine wpList_make_full _ rfl _ _ 38 rfl w.heap.size 4 i0 (.bool false) 1 Trym.underlying38 hi hz0 hz1 _ _ _ _ ((q / 4096 + 1) * 4096) rfl rfl (by omega) (by omega) (by rw [hz2]; omega) (by unfold maxLen; omega) (Nat.le_refl _) ?_; intro w1 hown hgrow))
      have hm0 := marks_start ((q / 4096 + 1) * 4096) N
      generalize (madeCells (Value.bool false).cells ((q / 4096 + 1) * 4096 * 1)).toList = xs0 at hown hm0
      have hb1 : Below w.heap.size w w1 := (Below.refl _ _).grown hgrow (Nat.le_refl _) (fun k hk => by cases hk)
      clear hgrow
      have Hmax : Hid (∀ j, j < len → N j < (q / 4096 + 1) * 4096) := fun j hj => by have := HN.out j hj; omega
      clear HN
      go_loopw [10] (fun i wr => ∃ (k : Nat) (xs : List Value), k ≤ len ∧ i = .int .i64 k ∧ wr.ownsRow w.heap.size 4 1 (.slice (some ⟨w.heap.size, 0, none⟩) ((q / 4096 + 1) * 4096) ((q / 4096 + 1) * 4096)) ((q / 4096 + 1) * 4096) xs ∧ Hid (Marks xs ((q / 4096 + 1) * 4096) N k) ∧ Below w.heap.size w wr ∧
          Hid (∀ i j, i < k → j < k → N i = N j → i = j)) (fun i _ => len - (intOf i).toNat)
      case atStart => exact ⟨0, xs0, Nat.zero_le _, rfl, hown, hm0, hb1, fun i j hi => absurd hi (Nat.not_lt_zero _)⟩
      case round =>
        obtain ⟨k, xs, hk, rfl, hrow, hmk, hbr, hdis⟩ := hrel
        clear hown hm0 hb1
        by_cases hlt : k < len
        · obtain ⟨b, off, rfl, hb, ca, hu⟩ := (hU.later hbr).at hlt
          have hNk := Hmax.out k hlt
          have hcm : wr.cell? ⟨w.heap.size, N k, none⟩ = some (.bool (inTo N k (N k))) := by rw [hrow.cellAt (N k) (by omega)]; exact hmk.out.2 _ hNk
          have hfm : wr.frozen? ⟨w.heap.size, N k, none⟩ = false := hrow.frozenAt (N k)
          cases hin : inTo N k (N k)
          · rw [hin] at hcm
            have hst := hrow.stored (N k) (.bool true)
            have HS : Hid (_ ∧ _) := hst
            have HM2 : Hid (Marks (xs.set (N k) (.bool true)) ((q / 4096 + 1) * 4096) N (k + 1)) := marks_step hmk.out hNk
            have HD : Hid (∀ i j, i < k + 1 → j < k + 1 → N i = N j → i = j) := dis_step hdis.out hin
            clear hin hst
            go_wp2
            go_roundw
            case rel => exact ⟨k + 1, _, by omega, by go_num, HS.out.1, HM2, hbr.grown HS.out.2 hbr.size (fun j hj => by cases hj; exact Nat.le_refl _), HD⟩
            case measure => simp [intOf]; omega
          · rw [hin] at hcm
            clear hin
            go_wp2
            go_ret2
            exact ⟨.inl ⟨_, rfl⟩, hbr⟩
        · obtain rfl : len = k := by omega
          go_wp2
          go_ret2
          exact ⟨.inr ⟨q / 4096 + 1, by simp, by omega, by omega, Hmax.out, hdis.out, by omega, by omega⟩, hbr⟩
end Go.Proofs.Qxb6606257aMods
