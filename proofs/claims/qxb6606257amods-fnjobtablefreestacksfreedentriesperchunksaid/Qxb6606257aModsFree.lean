import Derived.Test.Qxb6606257aModsPut
import Derived.Deep.RegionWith
import Derived.Deep.RegionHeld3
namespace Go.Proofs.Qxb6606257aMods
open Go.RowKit

theorem Tab.drew {w : World} {B bt bc cap nch : Nat} {J : Nat → Nat} {s : St} (h : Tab w B bt bc cap nch J s) : Tab w.drew B bt bc cap nch J s :=
  ⟨h.t0, h.t1, h.t2, h.t3, h.tf, h.c0, h.c1, h.c2, h.cf, h.jc, h.jf, h.tc, h.jt, h.inj, h.lo, h.small⟩

/-- WHAT 'free' MAKES OF THE STATE. -/
def St.free (s : St) (n : Nat) : St :=
  { s with
    E := fun e f => if e = n then vals8 0 0 (-1) 0 0 0 (s.first (n / 4096)) 0 f else s.E e f
    first := fun j => if j = n / 4096 then (n : Int) else s.first j
    freed := fun j => if j = n / 4096 then s.freed (n / 4096) + 1 else s.freed j
    room := min s.room ((n / 4096 : Nat) : Int) }

theorem free_end {w : World} {B bt bc cap nch : Nat} {J : Nat → Nat} {s : St} (h : Tab w B bt bc cap nch J s) (n : Nat) (hn : n < nch * 4096) (r : Int) (hr : r = min s.room ((n / 4096 : Nat) : Int)) :
    Below B w ((((w.setCells (J (n / 4096)) (n % 4096 * 8) [.int .i64 0, .int .i64 0, .int .i64 (-1), .int .u64 0, .int .u32 0, .int .u32 0, .int .u32 (s.first (n / 4096)), .int .u8 0]).setCell ⟨bc, n / 4096 * 3 + 2, none⟩ (.int .u32 (n : Int))).setCell ⟨bc, n / 4096 * 3 + 1, none⟩ (.int .i64 (s.freed (n / 4096) + 1))).setCell ⟨bt, 3, none⟩ (.int .i64 r)).drew ∧
    Tab ((((w.setCells (J (n / 4096)) (n % 4096 * 8) [.int .i64 0, .int .i64 0, .int .i64 (-1), .int .u64 0, .int .u32 0, .int .u32 0, .int .u32 (s.first (n / 4096)), .int .u8 0]).setCell ⟨bc, n / 4096 * 3 + 2, none⟩ (.int .u32 (n : Int))).setCell ⟨bc, n / 4096 * 3 + 1, none⟩ (.int .i64 (s.freed (n / 4096) + 1))).setCell ⟨bt, 3, none⟩ (.int .i64 r)).drew B bt bc cap nch J (s.free n) := by
  subst hr
  refine ⟨Below.drew (Below.setCell (Below.setCell (Below.setCell (below_setCells (h.lo.2.2 _ (by omega)) _ _ _ (Below.refl _ _)) h.lo.2.1 _) h.lo.2.1 _) h.lo.1 _), ?_⟩
  exact ((((h.putJob n hn _ _ rfl (vals8_cells 0 0 (-1) 0 0 0 (s.first (n / 4096)) 0)).putFirst (n / 4096) n).putFreed (n / 4096) (s.freed (n / 4096) + 1)).putRoom (min s.room ((n / 4096 : Nat) : Int))).drew

set_option maxRecDepth 100000 in
set_option maxHeartbeats 1000000 in
theorem freeT {w : World} {B bt bc cap nch : Nat} {J : Nat → Nat} {s : St} (hT : Tab w B bt bc cap nch J s) (n : Nat) (hn : n < nch * 4096) (hfr : 0 ≤ s.freed (n / 4096) ∧ s.freed (n / 4096) ≤ 65536) :
    Calls Trym.prog 38 #[.pointer (some ⟨bt, 0, none⟩), .int .u32 n] w fun e w' => e = .returned (.tuple #[]) ∧ Below B w w' ∧ Tab w' B bt bc cap nch J (s.free n) := by
  obtain ⟨f1, f2⟩ := hfr
  have hs := hT.small
  have t0 := hT.t0
  have t3 := hT.t3
  have tf := hT.tf
  have c1 := hT.c1 (n / 4096) (by omega)
  have c2 := hT.c2 (n / 4096) (by omega)
  have cf := hT.cf
  have q0 : w.cell? ⟨J (n / 4096), n % 4096 * 8, none⟩ = _ := hT.job n hn 0 (by omega)
  have q1 := hT.job n hn 1 (by omega)
  have q2 := hT.job n hn 2 (by omega)
  have q3 := hT.job n hn 3 (by omega)
  have q4 := hT.job n hn 4 (by omega)
  have q5 := hT.job n hn 5 (by omega)
  have q6 := hT.job n hn 6 (by omega)
  have q7 := hT.job n hn 7 (by omega)
  have hf := hT.jf (n / 4096) (by omega)
  obtain ⟨hj1, hj2⟩ := hT.jt (n / 4096) (by omega)
  have htc := hT.tc
  go_enter Trym.func38, Trym.ntmps38
  go_wp2_with fail
  go_region_with (go_at_call 45; refine (get_any hT.drew n hn).mono ?_; rintro e w' ⟨rfl, rfl⟩)
  all_goals go_wp2
  all_goals go_end0
  all_goals exact ⟨rfl, free_end hT n hn _ (by omega)⟩

theorem zfree {w : World} {B bt bc cap nch : Nat} {J : Nat → Nat} {s : St} (h : Tab w B bt bc cap nch J s) (n : Nat) (hn : n < nch * 4096) (hfr : 0 ≤ s.freed (n / 4096) ∧ s.freed (n / 4096) ≤ 65536) :
    Calls Trym.prog 19 #[.pointer (some ⟨bt, 0, none⟩), .int .u32 n] w fun e w' => e = .returned (.tuple #[]) ∧ Below B w w' ∧ Tab w' B bt bc cap nch J (s.free n) := by
  go_enter Trym.func19, Trym.ntmps19
  go_wp2_with (go_at_call 38; refine (freeT h n hn hfr).mono ?_; rintro e w' ⟨rfl, hb, ht⟩)
  go_end0
  exact ⟨rfl, hb, ht⟩
end Go.Proofs.Qxb6606257aMods
