import Derived.Test.Qxb6606257aModsKeeps
namespace Go.Proofs.Qxb6606257aMods
open Go.RowKit

section
variable {w : World} {B bt bc cap nch : Nat} {J : Nat → Nat} {s : St}
theorem kAt (h : Tab w B bt bc cap nch J s) {x : Nat} {v : Int} (hx : x < nch * 4096) (hE : s.E x 0 = v) : Hid (Calls Trym.prog 39 #[.pointer (some ⟨bt, 0, none⟩), .int .u32 x] w fun e w' => e = .returned (.int .i64 v) ∧ w' = w) := by subst hE; exact jobAt h x hx
theorem kSeq (h : Tab w B bt bc cap nch J s) {x : Nat} {v : Int} (hx : x < nch * 4096) (hE : s.E x 1 = v) : Hid (Calls Trym.prog 40 #[.pointer (some ⟨bt, 0, none⟩), .int .u32 x] w fun e w' => e = .returned (.int .i64 v) ∧ w' = w) := by subst hE; exact jobSeq h x hx
theorem kAdd (h : Tab w B bt bc cap nch J s) {x : Nat} {v : Int} (hx : x < nch * 4096) (hE : s.E x 2 = v) : Hid (Calls Trym.prog 30 #[.pointer (some ⟨bt, 0, none⟩), .int .u32 x] w fun e w' => e = .returned (.int .i64 v) ∧ w' = w) := by subst hE; exact jobAdded h x hx
theorem kHash (h : Tab w B bt bc cap nch J s) {x : Nat} {v : Int} (hx : x < nch * 4096) (hE : s.E x 3 = v) : Hid (Calls Trym.prog 41 #[.pointer (some ⟨bt, 0, none⟩), .int .u32 x] w fun e w' => e = .returned (.int .u64 v) ∧ w' = w) := by subst hE; exact jobHash h x hx
theorem kDel (h : Tab w B bt bc cap nch J s) {x : Nat} {v : Int} (hx : x < nch * 4096) (hE : s.E x 4 = v) : Hid (Calls Trym.prog 42 #[.pointer (some ⟨bt, 0, none⟩), .int .u32 x] w fun e w' => e = .returned (.int .u32 v) ∧ w' = w) := by subst hE; exact jobDeliv h x hx
theorem kTop (h : Tab w B bt bc cap nch J s) {x : Nat} {v : Int} (hx : x < nch * 4096) (hE : s.E x 5 = v) : Hid (Calls Trym.prog 43 #[.pointer (some ⟨bt, 0, none⟩), .int .u32 x] w fun e w' => e = .returned (.int .u32 v) ∧ w' = w) := by subst hE; exact jobTopic h x hx
theorem kInd (h : Tab w B bt bc cap nch J s) {x : Nat} {v : Int} (hx : x < nch * 4096) (hE : s.E x 6 = v) : Hid (Calls Trym.prog 27 #[.pointer (some ⟨bt, 0, none⟩), .int .u32 x] w fun e w' => e = .returned (.int .u32 v) ∧ w' = w) := by subst hE; exact jobIndex h x hx
theorem kPla (h : Tab w B bt bc cap nch J s) {x : Nat} {v : Int} (hx : x < nch * 4096) (hE : s.E x 7 = v) : Hid (Calls Trym.prog 44 #[.pointer (some ⟨bt, 0, none⟩), .int .u32 x] w fun e w' => e = .returned (.int .u8 v) ∧ w' = w) := by subst hE; exact jobPlace h x hx

set_option maxHeartbeats 1000000 in
theorem cleared (h : Tab w B bt bc cap nch J s) (x : Nat) (hx : x < nch * 4096) (hE : ∀ f, f ≠ 6 → s.E x f = vals8 0 0 (-1) 0 0 0 0 0 f) :
    Calls Trym.prog 24 #[.pointer (some ⟨bt, 0, none⟩), .int .u32 x] w fun e w' => e = .returned (.bool true) ∧ w' = w := by
  have K2 := kAdd h hx (hE 2 (by omega))
  have K0 := kAt h hx (hE 0 (by omega))
  have K1 := kSeq h hx (hE 1 (by omega))
  have K3 := kHash h hx (hE 3 (by omega))
  have K4 := kDel h hx (hE 4 (by omega))
  have K5 := kTop h hx (hE 5 (by omega))
  have K7 := kPla h hx (hE 7 (by omega))
  go_enter Trym.func24, Trym.ntmps24
  go_wp2_with fail
  refine K2.out.mono ?_
  rintro e w ⟨rfl, rfl⟩
  go_wp2_with fail
  refine K0.out.mono ?_
  rintro e w ⟨rfl, rfl⟩
  go_wp2_with fail
  refine K1.out.mono ?_
  rintro e w ⟨rfl, rfl⟩
  go_wp2_with fail
  refine K3.out.mono ?_
  rintro e w ⟨rfl, rfl⟩
  go_wp2_with fail
  refine K4.out.mono ?_
  rintro e w ⟨rfl, rfl⟩
  go_wp2_with fail
  refine K5.out.mono ?_
  rintro e w ⟨rfl, rfl⟩
  go_wp2_with fail
  refine K7.out.mono ?_
  rintro e w ⟨rfl, rfl⟩
  go_wp2_with fail
  go_ret
  exact ⟨rfl, rfl⟩

set_option maxHeartbeats 1000000 in
theorem intact (h : Tab w B bt bc cap nch J s) (x : Nat) (hx : x < nch * 4096) (hE : ∀ f, s.E x f = init x f) :
    Calls Trym.prog 25 #[.pointer (some ⟨bt, 0, none⟩), .int .u32 x] w fun e w' => e = .returned (.bool true) ∧ w' = w := by
  have hs := h.small
  have K0 := kAt (v := (x : Int) + 1) h hx (hE 0)
  have K1 := kSeq (v := (x : Int) + 1000003) h hx (hE 1)
  have K2 := kAdd (v := (x : Int)) h hx (hE 2)
  have K3 := kHash (v := (x : Int) + 11) h hx (hE 3)
  have K4 := kDel (v := (x : Int) % 5) h hx (hE 4)
  have K5 := kTop (v := 3) h hx (hE 5)
  have K6 := kInd (v := bits .xor .u32 (x : Int) 1) h hx (hE 6)
  have K7 := kPla (v := (x : Int) % 3) h hx (hE 7)
  go_enter Trym.func25, Trym.ntmps25
  go_wp2_with fail
  refine K0.out.mono ?_
  rintro e w ⟨rfl, rfl⟩
  go_wp2_with fail
  refine K1.out.mono ?_
  rintro e w ⟨rfl, rfl⟩
  go_wp2_with fail
  refine K2.out.mono ?_
  rintro e w ⟨rfl, rfl⟩
  go_wp2_with fail
  refine K3.out.mono ?_
  rintro e w ⟨rfl, rfl⟩
  go_wp2_with fail
  refine K4.out.mono ?_
  rintro e w ⟨rfl, rfl⟩
  go_wp2_with fail
  refine K5.out.mono ?_
  rintro e w ⟨rfl, rfl⟩
  go_wp2_with fail
  refine K6.out.mono ?_
  rintro e w ⟨rfl, rfl⟩
  go_wp2_with fail
  refine K7.out.mono ?_
  rintro e w ⟨rfl, rfl⟩
  go_wp2_with fail
  go_ret
  exact ⟨rfl, rfl⟩
end
end Go.Proofs.Qxb6606257aMods
