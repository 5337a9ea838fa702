import Derived.Test.Qxb6606257aModsTab
namespace Go.Proofs.Qxb6606257aMods
open Go.RowKit

theorem below_setCells {B b : Nat} {a : World} (hb : B ≤ b) : ∀ (vs : List Value) (o : Nat) (w : World), Below B a w → Below B a (w.setCells b o vs)
  | [], _, _, h => h
  | v :: r, o, w, h => below_setCells hb r (o + 1) (w.setCell ⟨b, o, none⟩ v) (h.setCell (p := ⟨b, o, none⟩) hb v)

theorem Tab.putJob {w : World} {B bt bc cap nch : Nat} {J : Nat → Nat} {s : St} (h : Tab w B bt bc cap nch J s) (n : Nat) (hn : n < nch * 4096) (vs : List Value) (v : Nat → Int) (hl : vs.length = 8) (hv : ∀ f, f < 8 → vs[f]? = some (.int (kd f) (v f))) :
    Tab (w.setCells (J (n / 4096)) (n % 4096 * 8) vs) B bt bc cap nch J { s with E := fun e f => if e = n then v f else s.E e f } := by
  have hq : n / 4096 < nch := by omega
  have hj := h.jt _ hq
  have out : ∀ b o, b ≠ J (n / 4096) → (w.setCells (J (n / 4096)) (n % 4096 * 8) vs).cell? ⟨b, o, none⟩ = w.cell? ⟨b, o, none⟩ := fun b o hb => World.cell?_setCells_out _ _ _ _ _ (fun e => absurd e hb)
  refine ⟨(out _ _ hj.1.symm).trans h.t0, (out _ _ hj.1.symm).trans h.t1, (out _ _ hj.1.symm).trans h.t2, (out _ _ hj.1.symm).trans h.t3, fun o => by rw [World.frozen?_setCells]; exact h.tf o,
    fun k hk => (out _ _ hj.2.symm).trans (h.c0 k hk), fun k hk => (out _ _ hj.2.symm).trans (h.c1 k hk), fun k hk => (out _ _ hj.2.symm).trans (h.c2 k hk), fun o => by rw [World.frozen?_setCells]; exact h.cf o,
    fun k hk i hi f hf => ?_, fun k hk o => by rw [World.frozen?_setCells]; exact h.jf k hk o, h.tc, h.jt, h.inj, h.lo, h.small⟩
  show _ = some (Value.int (kd f) (if k * 4096 + i = n then v f else s.E (k * 4096 + i) f))
  by_cases e : k * 4096 + i = n
  · rw [if_pos e]
    have ek : n / 4096 = k := by omega
    have ei : n % 4096 = i := by omega
    rw [ek, ei]
    have := World.cell?_setCells_in (J k) vs (i * 8) w (fun j hj => by rw [h.jc k hk i hi j (by omega)]; rfl) f (by omega)
    rw [this]
    have h2 := hv f hf
    rw [List.getElem?_eq_getElem (by omega)] at h2
    exact h2
  · rw [if_neg e]
    refine (World.cell?_setCells_out _ _ _ _ _ (fun hb _ => ?_)).trans (h.jc k hk i hi f hf)
    have := h.inj k _ hk hq hb
    simp only at *
    omega

set_option maxRecDepth 100000 in
set_option maxHeartbeats 400000 in
theorem setJob {w : World} {B bt bc cap nch : Nat} {J : Nat → Nat} {s : St} (h : Tab w B bt bc cap nch J s) (n : Nat) (hn : n < nch * 4096) (v0 v1 v2 v3 v4 v5 v6 v7 : Int) :
    Calls Trym.prog 33 #[.pointer (some ⟨bt, 0, none⟩), .int .u32 n, .int .i64 v0, .int .i64 v1, .int .i64 v2, .int .u64 v3, .int .u32 v4, .int .u32 v5, .int .u32 v6, .int .u8 v7] w
      fun e w' => e = .returned (.tuple #[]) ∧ w.setCells (J (n / 4096)) (n % 4096 * 8) [.int .i64 v0, .int .i64 v1, .int .i64 v2, .int .u64 v3, .int .u32 v4, .int .u32 v5, .int .u32 v6, .int .u8 v7] = w' := by
  have q0 : w.cell? ⟨J (n / 4096), n % 4096 * 8, none⟩ = _ := h.job n hn 0 (by omega)
  have q1 := h.job n hn 1 (by omega)
  have q2 := h.job n hn 2 (by omega)
  have q3 := h.job n hn 3 (by omega)
  have q4 := h.job n hn 4 (by omega)
  have q5 := h.job n hn 5 (by omega)
  have q6 := h.job n hn 6 (by omega)
  have q7 := h.job n hn 7 (by omega)
  have hf := h.jf (n / 4096) (by omega)
  go_enter Trym.func33, Trym.ntmps33
  go_wp2_with (go_at_call 45; refine (get_any h n hn).mono ?_; rintro e w' ⟨rfl, rfl⟩)
  go_end0
  exact ⟨rfl, rfl⟩

def vals8 (v0 v1 v2 v3 v4 v5 v6 v7 : Int) : Nat → Int
  | 0 => v0 | 1 => v1 | 2 => v2 | 3 => v3 | 4 => v4 | 5 => v5 | 6 => v6 | _ => v7

theorem vals8_cells (v0 v1 v2 v3 v4 v5 v6 v7 : Int) (f : Nat) (hf : f < 8) : [Value.int .i64 v0, .int .i64 v1, .int .i64 v2, .int .u64 v3, .int .u32 v4, .int .u32 v5, .int .u32 v6, .int .u8 v7][f]? = some (.int (kd f) (vals8 v0 v1 v2 v3 v4 v5 v6 v7 f)) := by
  match f, hf with
  | 0, _ => rfl
  | 1, _ => rfl
  | 2, _ => rfl
  | 3, _ => rfl
  | 4, _ => rfl
  | 5, _ => rfl
  | 6, _ => rfl
  | 7, _ => rfl

theorem setJob_any {w : World} {B bt bc cap nch : Nat} {J : Nat → Nat} {s : St} (h : Tab w B bt bc cap nch J s) (n : Nat) (hn : n < nch * 4096) (v0 v1 v2 v3 v4 v5 v6 v7 : Int) :
    Calls Trym.prog 33 #[.pointer (some ⟨bt, 0, none⟩), .int .u32 n, .int .i64 v0, .int .i64 v1, .int .i64 v2, .int .u64 v3, .int .u32 v4, .int .u32 v5, .int .u32 v6, .int .u8 v7] w
      fun e w' => e = .returned (.tuple #[]) ∧ Below B w w' ∧ Tab w' B bt bc cap nch J { s with E := fun e f => if e = n then vals8 v0 v1 v2 v3 v4 v5 v6 v7 f else s.E e f } := by
  refine (setJob h n hn v0 v1 v2 v3 v4 v5 v6 v7).mono fun e w' hw => ?_
  obtain ⟨rfl, rfl⟩ := hw
  exact ⟨rfl, below_setCells (h.lo.2.2 _ (by omega)) _ _ _ (Below.refl _ _), h.putJob n hn _ _ rfl (vals8_cells v0 v1 v2 v3 v4 v5 v6 v7)⟩

theorem cell_same {w : World} {b o : Nat} {u v : Value} (h : w.cell? ⟨b, o, none⟩ = some u) : (w.setCell ⟨b, o, none⟩ v).cell? ⟨b, o, none⟩ = some v := World.cell?_setCell_same _ _ _ h
theorem cell_other {w : World} {b o b' o' : Nat} {v : Value} (h : b ≠ b' ∨ o ≠ o') : (w.setCell ⟨b, o, none⟩ v).cell? ⟨b', o', none⟩ = w.cell? ⟨b', o', none⟩ :=
  World.cell?_setCell_other _ _ _ _ (fun e => by simp only [Addr.mk.injEq, and_true] at e; omega)
theorem froz {w : World} {a : Addr} {v : Value} (x : Addr) : (w.setCell a v).frozen? x = w.frozen? x := World.frozen?_setCell _ _ _ _

theorem Tab.putNext {w : World} {B bt bc cap nch : Nat} {J : Nat → Nat} {s : St} (h : Tab w B bt bc cap nch J s) (x : Int) : Tab (w.setCell ⟨bt, 1, none⟩ (.int .u32 x)) B bt bc cap nch J { s with next := x } :=
  ⟨(cell_other (.inr (by omega))).trans h.t0, cell_same h.t1, (cell_other (.inr (by omega))).trans h.t2, (cell_other (.inr (by omega))).trans h.t3, fun o => (froz _).trans (h.tf o),
    fun k hk => (cell_other (.inl h.tc)).trans (h.c0 k hk), fun k hk => (cell_other (.inl h.tc)).trans (h.c1 k hk), fun k hk => (cell_other (.inl h.tc)).trans (h.c2 k hk), fun o => (froz _).trans (h.cf o),
    fun k hk i hi f hf => (cell_other (.inl (h.jt k hk).1.symm)).trans (h.jc k hk i hi f hf), fun k hk o => (froz _).trans (h.jf k hk o), h.tc, h.jt, h.inj, h.lo, h.small⟩

theorem Tab.putHeld {w : World} {B bt bc cap nch : Nat} {J : Nat → Nat} {s : St} (h : Tab w B bt bc cap nch J s) (x : Int) : Tab (w.setCell ⟨bt, 2, none⟩ (.int .i64 x)) B bt bc cap nch J { s with held := x } :=
  ⟨(cell_other (.inr (by omega))).trans h.t0, (cell_other (.inr (by omega))).trans h.t1, cell_same h.t2, (cell_other (.inr (by omega))).trans h.t3, fun o => (froz _).trans (h.tf o),
    fun k hk => (cell_other (.inl h.tc)).trans (h.c0 k hk), fun k hk => (cell_other (.inl h.tc)).trans (h.c1 k hk), fun k hk => (cell_other (.inl h.tc)).trans (h.c2 k hk), fun o => (froz _).trans (h.cf o),
    fun k hk i hi f hf => (cell_other (.inl (h.jt k hk).1.symm)).trans (h.jc k hk i hi f hf), fun k hk o => (froz _).trans (h.jf k hk o), h.tc, h.jt, h.inj, h.lo, h.small⟩

theorem Tab.putRoom {w : World} {B bt bc cap nch : Nat} {J : Nat → Nat} {s : St} (h : Tab w B bt bc cap nch J s) (x : Int) : Tab (w.setCell ⟨bt, 3, none⟩ (.int .i64 x)) B bt bc cap nch J { s with room := x } :=
  ⟨(cell_other (.inr (by omega))).trans h.t0, (cell_other (.inr (by omega))).trans h.t1, (cell_other (.inr (by omega))).trans h.t2, cell_same h.t3, fun o => (froz _).trans (h.tf o),
    fun k hk => (cell_other (.inl h.tc)).trans (h.c0 k hk), fun k hk => (cell_other (.inl h.tc)).trans (h.c1 k hk), fun k hk => (cell_other (.inl h.tc)).trans (h.c2 k hk), fun o => (froz _).trans (h.cf o),
    fun k hk i hi f hf => (cell_other (.inl (h.jt k hk).1.symm)).trans (h.jc k hk i hi f hf), fun k hk o => (froz _).trans (h.jf k hk o), h.tc, h.jt, h.inj, h.lo, h.small⟩

theorem Tab.putFreed {w : World} {B bt bc cap nch : Nat} {J : Nat → Nat} {s : St} (h : Tab w B bt bc cap nch J s) (k : Nat) (x : Int) : Tab (w.setCell ⟨bc, k * 3 + 1, none⟩ (.int .i64 x)) B bt bc cap nch J { s with freed := fun j => if j = k then x else s.freed j } := by
  refine ⟨(cell_other (.inl h.tc.symm)).trans h.t0, (cell_other (.inl h.tc.symm)).trans h.t1, (cell_other (.inl h.tc.symm)).trans h.t2, (cell_other (.inl h.tc.symm)).trans h.t3, fun o => (froz _).trans (h.tf o),
    ?_, ?_, ?_, fun o => (froz _).trans (h.cf o),
    fun k hk i hi f hf => (cell_other (.inl (h.jt k hk).2.symm)).trans (h.jc k hk i hi f hf), fun k hk o => (froz _).trans (h.jf k hk o), h.tc, h.jt, h.inj, h.lo, h.small⟩
  · exact fun j hj => (cell_other (.inr (by omega))).trans (h.c0 j hj)
  · exact fun j hj => by
      show _ = some (Value.int .i64 (if j = k then x else s.freed j))
      by_cases e : j = k
      · subst e; rw [if_pos rfl]; exact cell_same (h.c1 j hj)
      · rw [if_neg e]; exact (cell_other (.inr (by omega))).trans (h.c1 j hj)
  · exact fun j hj => (cell_other (.inr (by omega))).trans (h.c2 j hj)

theorem Tab.putFirst {w : World} {B bt bc cap nch : Nat} {J : Nat → Nat} {s : St} (h : Tab w B bt bc cap nch J s) (k : Nat) (x : Int) : Tab (w.setCell ⟨bc, k * 3 + 2, none⟩ (.int .u32 x)) B bt bc cap nch J { s with first := fun j => if j = k then x else s.first j } := by
  refine ⟨(cell_other (.inl h.tc.symm)).trans h.t0, (cell_other (.inl h.tc.symm)).trans h.t1, (cell_other (.inl h.tc.symm)).trans h.t2, (cell_other (.inl h.tc.symm)).trans h.t3, fun o => (froz _).trans (h.tf o),
    ?_, ?_, ?_, fun o => (froz _).trans (h.cf o),
    fun k hk i hi f hf => (cell_other (.inl (h.jt k hk).2.symm)).trans (h.jc k hk i hi f hf), fun k hk o => (froz _).trans (h.jf k hk o), h.tc, h.jt, h.inj, h.lo, h.small⟩
  · exact fun j hj => (cell_other (.inr (by omega))).trans (h.c0 j hj)
  · exact fun j hj => (cell_other (.inr (by omega))).trans (h.c1 j hj)
  · exact fun j hj => by
      show _ = some (Value.int .u32 (if j = k then x else s.first j))
      by_cases e : j = k
      · subst e; rw [if_pos rfl]; exact cell_same (h.c2 j hj)
      · rw [if_neg e]; exact (cell_other (.inr (by omega))).trans (h.c2 j hj)

set_option maxHeartbeats 400000 in
theorem setCounts {w : World} {B bt bc cap nch : Nat} {J : Nat → Nat} {s : St} (h : Tab w B bt bc cap nch J s) (x y z : Int) :
    Calls Trym.prog 34 #[.pointer (some ⟨bt, 0, none⟩), .int .u32 x, .int .i64 y, .int .i64 z] w
      fun e w' => e = .returned (.tuple #[]) ∧ Below B w w' ∧ Tab w' B bt bc cap nch J { s with next := x, held := y, room := z } := by
  have t1 := h.t1
  have t2 := h.t2
  have t3 := h.t3
  have hf := h.tf
  go_enter Trym.func34, Trym.ntmps34
  go_wp2
  go_end0
  exact ⟨rfl, (((Below.refl _ _).setCell (p := ⟨bt, 1, none⟩) h.lo.1 _).setCell (p := ⟨bt, 2, none⟩) h.lo.1 _).setCell (p := ⟨bt, 3, none⟩) h.lo.1 _, ((h.putNext x).putHeld y).putRoom z⟩
end Go.Proofs.Qxb6606257aMods
