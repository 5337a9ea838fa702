import Derived.Test.Qxb6612698aModsHas
import Derived.Deep.MidRow
namespace Go.Proofs.Qxb6612698aMods
open Go.RowKit

/-- Block b holds the 1024 words X. -/
structure Wd (w : World) (b : Nat) (X : Nat → Nat) : Prop where
  cell : ∀ i, i < 1024 → w.cell? ⟨b, i, none⟩ = some (.int .u64 (X i))
  froz : ∀ i, w.frozen? ⟨b, i, none⟩ = false

/-- The cells of an array's value. -/
def Words (cs : Array Value) (X : Nat → Nat) : Prop := cs.size = 1024 ∧ ∀ i, i < 1024 → cs[i]? = some (.int .u64 (X i))

theorem wd_alloc {w : World} {cs : Array Value} {X : Nat → Nat} (h : Words cs X) : Wd (w.alloc (.cells cs 23)) w.heap.size X :=
  ⟨fun i hi => by rw [cell_of_row _ w.heap.size i cs 23 (0, 0) (heap_alloc_new w _)]; exact h.2 i hi, fun i => frozen_of_row _ w.heap.size i cs 23 (heap_alloc_new w _)⟩

theorem Wd.later {w w' : World} {b : Nat} {X : Nat → Nat} (h : Wd w b X) (hb : Below w.heap.size w w') : Wd w' b X := by
  have lt : b < w.heap.size := World.block_lt_of_cell? w _ (h.cell 0 (by omega))
  exact ⟨fun i hi => (hb.cell lt).trans (h.cell i hi), fun i => (hb.frozen lt).trans (h.froz i)⟩

theorem Wd.lt {w : World} {b : Nat} {X : Nat → Nat} (h : Wd w b X) : b < w.heap.size := World.block_lt_of_cell? w _ (h.cell 0 (by omega))

theorem Wd.drewN {w : World} {b : Nat} {X : Nat → Nat} (h : Wd w b X) (n : Nat) : Wd (w.drewN n) b X := ⟨h.cell, h.froz⟩

theorem Wd.set {w : World} {b : Nat} {X : Nat → Nat} (h : Wd w b X) (i v : Nat) (hi : i < 1024) : Wd (w.setCell ⟨b, i, none⟩ (.int .u64 v)) b (fun j => if j = i then v else X j) := by
  refine ⟨fun j hj => ?_, fun j => by rw [World.frozen?_setCell]; exact h.froz j⟩
  by_cases e : j = i
  · subst e
    rw [if_pos rfl]
    exact World.cell?_setCell_same _ _ _ (h.cell j hj)
  · rw [if_neg e]
    rw [World.cell?_setCell_other _ _ _ _ (fun e' => by simp only [Addr.mk.injEq, and_true] at e'; omega)]
    exact h.cell j hj

theorem Wd.other {w : World} {b : Nat} {X : Nat → Nat} (h : Wd w b X) {b' i : Nat} {v : Value} (hb : b' ≠ b) : Wd (w.setCell ⟨b', i, none⟩ v) b X :=
  ⟨fun j hj => by rw [World.cell?_setCell_other _ _ _ _ (fun e' => by simp only [Addr.mk.injEq, and_true] at e'; omega)]; exact h.cell j hj, fun j => by rw [World.frozen?_setCell]; exact h.froz j⟩

theorem Wd.same {w : World} {b : Nat} {X Y : Nat → Nat} (h : Wd w b X) (e : ∀ i, i < 1024 → X i = Y i) : Wd w b Y := ⟨fun i hi => by rw [h.cell i hi, e i hi], h.froz⟩

theorem Wd.put {w : World} {b : Nat} {X Y : Nat → Nat} (h : Wd w b X) {l : List Value} (hl : l.length = 1024) (hY : ∀ i, i < 1024 → l[i]? = some (.int .u64 (Y i))) : Wd (w.setCells b 0 l) b Y := by
  refine ⟨fun i hi => ?_, fun i => by rw [World.frozen?_setCells]; exact h.froz i⟩
  have := World.cell?_setCells_in b l 0 w (fun j hj => by rw [Nat.zero_add, h.cell j (by omega)]; rfl) i (by omega)
  rw [Nat.zero_add] at this
  rw [this]
  have h2 := hY i hi
  rw [List.getElem?_eq_getElem (by omega)] at h2
  exact h2

theorem below_setCells {B b : Nat} {a : World} (hb : B ≤ b) : ∀ (vs : List Value) (o : Nat) (w : World), Below B a w → Below B a (w.setCells b o vs)
  | [], _, _, h => h
  | v :: r, o, w, h => below_setCells hb r (o + 1) (w.setCell ⟨b, o, none⟩ v) (h.setCell (p := ⟨b, o, none⟩) hb v)

def ones : Nat := 18446744073709551615
theorem ones_bit (k : Nat) (hk : k < 64) : ones.testBit k = true := by
  have : ones = 2 ^ 64 - 1 := rfl
  rw [this, Nat.testBit_two_pow_sub_one]
  simp [hk]
theorem zero_bit (k : Nat) : (0 : Nat).testBit k = false := Nat.zero_testBit k

/-- The first k words all ones. -/
def fillOnes (k j : Nat) : Nat := if j < k then ones else 0

theorem zhas_val {w : World} {b r : Nat} {X : Nat → Nat} {v : Bool} (h : Wd w b X) (hr : r ≤ 65535) (hX : ∀ i, i < 1024 → X i < 18446744073709551616) (hv : (X (r / 64)).testBit (r % 64) = v) :
    Hid (Calls Trym.prog 5 #[.pointer (some ⟨b, 0, none⟩), .int .i32 r] w fun e w' => e = .returned (.bool v) ∧ ∃ n, w' = w.drewN n) := by
  subst hv
  exact zhas_in b r (X (r / 64)) w hr (hX _ (by omega)) (h.cell _ (by omega))

theorem xor_nat (X k : Nat) (hX : X < 18446744073709551616) (hk : k < 64) : bits .xor .u64 (X : Int) (IntKind.u64.wrap (2 ^ k)) = ((X ^^^ 2 ^ k : Nat) : Int) := by
  rw [wrap_pow k hk, u64_xor_nat X (2 ^ k) hX (pow_lt k hk)]

theorem xor_lt (X k : Nat) (hX : X < 18446744073709551616) (hk : k < 64) : X ^^^ 2 ^ k < 18446744073709551616 := Nat.xor_lt_two_pow (n := 64) hX (pow_lt k hk)

theorem xor_bit (X k j : Nat) : (X ^^^ 2 ^ k).testBit j = (X.testBit j ^^ decide (k = j)) := by
  rw [Nat.testBit_xor, Nat.testBit_two_pow]
end Go.Proofs.Qxb6612698aMods
