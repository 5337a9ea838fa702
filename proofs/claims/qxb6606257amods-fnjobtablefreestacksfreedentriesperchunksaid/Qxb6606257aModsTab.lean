import Derived.Test.Qxb6606257aModsProg
import Derived.WalkKit
import Derived.WalkSpells
import Derived.WalkLawsBesides
import Derived.Laws.IdiomCopy
import Derived.Laws.BitsAllLaws
import Derived.Deep.QuietTactic
import Derived.BigQuiet
namespace Go.Proofs.Qxb6606257aMods
open Go.RowKit

/-- The kind of a job's field: at, seq, added, hash, deliveries, topic, index, place. -/
def kd : Nat → IntKind
  | 0 => .i64 | 1 => .i64 | 2 => .i64 | 3 => .u64 | 4 => .u32 | 5 => .u32 | 6 => .u32 | _ => .u8

/-- WHAT A JOB TABLE HOLDS: entry e's field f; each chunk's first freed entry and how many are freed; the three counts. -/
structure St where
  E : Nat → Nat → Int
  first : Nat → Int
  freed : Nat → Int
  next : Int
  held : Int
  room : Int

/-- The table's block bt, the chunks' row bc, each chunk's jobs in block J k; all of them the call's own (from block number B on). -/
structure Tab (w : World) (B bt bc cap nch : Nat) (J : Nat → Nat) (s : St) : Prop where
  t0 : w.cell? ⟨bt, 0, none⟩ = some (.slice (some ⟨bc, 0, none⟩) nch cap)
  t1 : w.cell? ⟨bt, 1, none⟩ = some (.int .u32 s.next)
  t2 : w.cell? ⟨bt, 2, none⟩ = some (.int .i64 s.held)
  t3 : w.cell? ⟨bt, 3, none⟩ = some (.int .i64 s.room)
  tf : ∀ o, w.frozen? ⟨bt, o, none⟩ = false
  c0 : ∀ k, k < nch → w.cell? ⟨bc, k * 3, none⟩ = some (.slice (some ⟨J k, 0, none⟩) 4096 4096)
  c1 : ∀ k, k < nch → w.cell? ⟨bc, k * 3 + 1, none⟩ = some (.int .i64 (s.freed k))
  c2 : ∀ k, k < nch → w.cell? ⟨bc, k * 3 + 2, none⟩ = some (.int .u32 (s.first k))
  cf : ∀ o, w.frozen? ⟨bc, o, none⟩ = false
  jc : ∀ k, k < nch → ∀ i, i < 4096 → ∀ f, f < 8 → w.cell? ⟨J k, i * 8 + f, none⟩ = some (.int (kd f) (s.E (k * 4096 + i) f))
  jf : ∀ k, k < nch → ∀ o, w.frozen? ⟨J k, o, none⟩ = false
  tc : bt ≠ bc
  jt : ∀ k, k < nch → J k ≠ bt ∧ J k ≠ bc
  inj : ∀ j k, j < nch → k < nch → J j = J k → j = k
  lo : B ≤ bt ∧ B ≤ bc ∧ ∀ k, k < nch → B ≤ J k
  small : nch ≤ 16

theorem and4095 (n : Nat) (h : n < 65536) : bits .and .u32 (n : Int) 4095 = ((n % 4096 : Nat) : Int) := by
  have := u32_and_nat n 4095 (by omega) (by omega)
  rw [nat_mask12] at this
  exact this

set_option maxRecDepth 100000 in
set_option maxHeartbeats 400000 in
theorem get_any {w : World} {B bt bc cap nch : Nat} {J : Nat → Nat} {s : St} (h : Tab w B bt bc cap nch J s) (n : Nat) (hn : n < nch * 4096) :
    Calls Trym.prog 45 #[.pointer (some ⟨bt, 0, none⟩), .int .u32 n] w fun e w' => e = .returned (.pointer (some ⟨J (n / 4096), n % 4096 * 8, none⟩)) ∧ w' = w := by
  have hs := h.small
  have t0 := h.t0
  have c0 := h.c0 (n / 4096) (by omega)
  have ha := and4095 n (by omega)
  go_enter Trym.func45, Trym.ntmps45
  go_wp2
  go_ret
  exact ⟨rfl, rfl⟩

/-- A field of an entry, at the place that 'get' gives. -/
theorem Tab.job {w : World} {B bt bc cap nch : Nat} {J : Nat → Nat} {s : St} (h : Tab w B bt bc cap nch J s) (n : Nat) (hn : n < nch * 4096) (f : Nat) (hf : f < 8) :
    w.cell? ⟨J (n / 4096), n % 4096 * 8 + f, none⟩ = some (.int (kd f) (s.E n f)) := by
  have := h.jc (n / 4096) (by omega) (n % 4096) (by omega) f hf
  rwa [show n / 4096 * 4096 + n % 4096 = n by omega] at this

set_option maxHeartbeats 400000 in
theorem jobAt {w : World} {B bt bc cap nch : Nat} {J : Nat → Nat} {s : St} (h : Tab w B bt bc cap nch J s) (n : Nat) (hn : n < nch * 4096) :
    Calls Trym.prog 39 #[.pointer (some ⟨bt, 0, none⟩), .int .u32 n] w fun e w' => e = .returned (.int .i64 (s.E n 0)) ∧ w' = w := by
  have hc : w.cell? ⟨J (n / 4096), n % 4096 * 8, none⟩ = some (.int .i64 (s.E n 0)) := h.job n hn 0 (by omega)
  go_enter Trym.func39, Trym.ntmps39
  go_wp2_with (go_at_call 45; refine (get_any h n hn).mono ?_; rintro e w' ⟨rfl, rfl⟩)
  go_ret
  exact ⟨rfl, rfl⟩

set_option maxHeartbeats 400000 in
theorem jobSeq {w : World} {B bt bc cap nch : Nat} {J : Nat → Nat} {s : St} (h : Tab w B bt bc cap nch J s) (n : Nat) (hn : n < nch * 4096) :
    Calls Trym.prog 40 #[.pointer (some ⟨bt, 0, none⟩), .int .u32 n] w fun e w' => e = .returned (.int .i64 (s.E n 1)) ∧ w' = w := by
  have hc : w.cell? ⟨J (n / 4096), n % 4096 * 8 + 1, none⟩ = some (.int .i64 (s.E n 1)) := h.job n hn 1 (by omega)
  go_enter Trym.func40, Trym.ntmps40
  go_wp2_with (go_at_call 45; refine (get_any h n hn).mono ?_; rintro e w' ⟨rfl, rfl⟩)
  go_ret
  exact ⟨rfl, rfl⟩

set_option maxHeartbeats 400000 in
theorem jobAdded {w : World} {B bt bc cap nch : Nat} {J : Nat → Nat} {s : St} (h : Tab w B bt bc cap nch J s) (n : Nat) (hn : n < nch * 4096) :
    Calls Trym.prog 30 #[.pointer (some ⟨bt, 0, none⟩), .int .u32 n] w fun e w' => e = .returned (.int .i64 (s.E n 2)) ∧ w' = w := by
  have hc : w.cell? ⟨J (n / 4096), n % 4096 * 8 + 2, none⟩ = some (.int .i64 (s.E n 2)) := h.job n hn 2 (by omega)
  go_enter Trym.func30, Trym.ntmps30
  go_wp2_with (go_at_call 45; refine (get_any h n hn).mono ?_; rintro e w' ⟨rfl, rfl⟩)
  go_ret
  exact ⟨rfl, rfl⟩

set_option maxHeartbeats 400000 in
theorem jobHash {w : World} {B bt bc cap nch : Nat} {J : Nat → Nat} {s : St} (h : Tab w B bt bc cap nch J s) (n : Nat) (hn : n < nch * 4096) :
    Calls Trym.prog 41 #[.pointer (some ⟨bt, 0, none⟩), .int .u32 n] w fun e w' => e = .returned (.int .u64 (s.E n 3)) ∧ w' = w := by
  have hc : w.cell? ⟨J (n / 4096), n % 4096 * 8 + 3, none⟩ = some (.int .u64 (s.E n 3)) := h.job n hn 3 (by omega)
  go_enter Trym.func41, Trym.ntmps41
  go_wp2_with (go_at_call 45; refine (get_any h n hn).mono ?_; rintro e w' ⟨rfl, rfl⟩)
  go_ret
  exact ⟨rfl, rfl⟩

set_option maxHeartbeats 400000 in
theorem jobDeliv {w : World} {B bt bc cap nch : Nat} {J : Nat → Nat} {s : St} (h : Tab w B bt bc cap nch J s) (n : Nat) (hn : n < nch * 4096) :
    Calls Trym.prog 42 #[.pointer (some ⟨bt, 0, none⟩), .int .u32 n] w fun e w' => e = .returned (.int .u32 (s.E n 4)) ∧ w' = w := by
  have hc : w.cell? ⟨J (n / 4096), n % 4096 * 8 + 4, none⟩ = some (.int .u32 (s.E n 4)) := h.job n hn 4 (by omega)
  go_enter Trym.func42, Trym.ntmps42
  go_wp2_with (go_at_call 45; refine (get_any h n hn).mono ?_; rintro e w' ⟨rfl, rfl⟩)
  go_ret
  exact ⟨rfl, rfl⟩

set_option maxHeartbeats 400000 in
theorem jobTopic {w : World} {B bt bc cap nch : Nat} {J : Nat → Nat} {s : St} (h : Tab w B bt bc cap nch J s) (n : Nat) (hn : n < nch * 4096) :
    Calls Trym.prog 43 #[.pointer (some ⟨bt, 0, none⟩), .int .u32 n] w fun e w' => e = .returned (.int .u32 (s.E n 5)) ∧ w' = w := by
  have hc : w.cell? ⟨J (n / 4096), n % 4096 * 8 + 5, none⟩ = some (.int .u32 (s.E n 5)) := h.job n hn 5 (by omega)
  go_enter Trym.func43, Trym.ntmps43
  go_wp2_with (go_at_call 45; refine (get_any h n hn).mono ?_; rintro e w' ⟨rfl, rfl⟩)
  go_ret
  exact ⟨rfl, rfl⟩

set_option maxHeartbeats 400000 in
theorem jobIndex {w : World} {B bt bc cap nch : Nat} {J : Nat → Nat} {s : St} (h : Tab w B bt bc cap nch J s) (n : Nat) (hn : n < nch * 4096) :
    Calls Trym.prog 27 #[.pointer (some ⟨bt, 0, none⟩), .int .u32 n] w fun e w' => e = .returned (.int .u32 (s.E n 6)) ∧ w' = w := by
  have hc : w.cell? ⟨J (n / 4096), n % 4096 * 8 + 6, none⟩ = some (.int .u32 (s.E n 6)) := h.job n hn 6 (by omega)
  go_enter Trym.func27, Trym.ntmps27
  go_wp2_with (go_at_call 45; refine (get_any h n hn).mono ?_; rintro e w' ⟨rfl, rfl⟩)
  go_ret
  exact ⟨rfl, rfl⟩

set_option maxHeartbeats 400000 in
theorem jobPlace {w : World} {B bt bc cap nch : Nat} {J : Nat → Nat} {s : St} (h : Tab w B bt bc cap nch J s) (n : Nat) (hn : n < nch * 4096) :
    Calls Trym.prog 44 #[.pointer (some ⟨bt, 0, none⟩), .int .u32 n] w fun e w' => e = .returned (.int .u8 (s.E n 7)) ∧ w' = w := by
  have hc : w.cell? ⟨J (n / 4096), n % 4096 * 8 + 7, none⟩ = some (.int .u8 (s.E n 7)) := h.job n hn 7 (by omega)
  go_enter Trym.func44, Trym.ntmps44
  go_wp2_with (go_at_call 45; refine (get_any h n hn).mono ?_; rintro e w' ⟨rfl, rfl⟩)
  go_ret
  exact ⟨rfl, rfl⟩

set_option maxHeartbeats 400000 in
theorem chunkFreed {w : World} {B bt bc cap nch : Nat} {J : Nat → Nat} {s : St} (h : Tab w B bt bc cap nch J s) (k : Nat) (hk : k < nch) :
    Calls Trym.prog 28 #[.pointer (some ⟨bt, 0, none⟩), .int .i64 k] w fun e w' => e = .returned (.int .i64 (s.freed k)) ∧ w' = w := by
  have hs := h.small
  have t0 := h.t0
  have hc := h.c1 k hk
  go_enter Trym.func28, Trym.ntmps28
  go_wp2
  go_ret
  exact ⟨rfl, rfl⟩

set_option maxHeartbeats 400000 in
theorem chunkFirst {w : World} {B bt bc cap nch : Nat} {J : Nat → Nat} {s : St} (h : Tab w B bt bc cap nch J s) (k : Nat) (hk : k < nch) :
    Calls Trym.prog 26 #[.pointer (some ⟨bt, 0, none⟩), .int .i64 k] w fun e w' => e = .returned (.int .u32 (s.first k)) ∧ w' = w := by
  have hs := h.small
  have t0 := h.t0
  have hc := h.c2 k hk
  go_enter Trym.func26, Trym.ntmps26
  go_wp2
  go_ret
  exact ⟨rfl, rfl⟩

theorem tabNext {w : World} {B bt bc cap nch : Nat} {J : Nat → Nat} {s : St} (h : Tab w B bt bc cap nch J s) :
    Calls Trym.prog 21 #[.pointer (some ⟨bt, 0, none⟩)] w fun e w' => e = .returned (.int .u32 s.next) ∧ w' = w := by
  have hc := h.t1
  go_enter Trym.func21, Trym.ntmps21
  go_wp2
  go_ret
  exact ⟨rfl, rfl⟩

theorem tabHeld {w : World} {B bt bc cap nch : Nat} {J : Nat → Nat} {s : St} (h : Tab w B bt bc cap nch J s) :
    Calls Trym.prog 22 #[.pointer (some ⟨bt, 0, none⟩)] w fun e w' => e = .returned (.int .i64 s.held) ∧ w' = w := by
  have hc := h.t2
  go_enter Trym.func22, Trym.ntmps22
  go_wp2
  go_ret
  exact ⟨rfl, rfl⟩

theorem tabRoom {w : World} {B bt bc cap nch : Nat} {J : Nat → Nat} {s : St} (h : Tab w B bt bc cap nch J s) :
    Calls Trym.prog 23 #[.pointer (some ⟨bt, 0, none⟩)] w fun e w' => e = .returned (.int .i64 s.room) ∧ w' = w := by
  have hc := h.t3
  go_enter Trym.func23, Trym.ntmps23
  go_wp2
  go_ret
  exact ⟨rfl, rfl⟩

theorem tabChunks {w : World} {B bt bc cap nch : Nat} {J : Nat → Nat} {s : St} (h : Tab w B bt bc cap nch J s) :
    Calls Trym.prog 20 #[.pointer (some ⟨bt, 0, none⟩)] w fun e w' => e = .returned (.int .i64 nch) ∧ w' = w := by
  have hc := h.t0
  go_enter Trym.func20, Trym.ntmps20
  go_wp2
  go_ret
  exact ⟨rfl, rfl⟩
end Go.Proofs.Qxb6606257aMods
