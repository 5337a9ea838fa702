import Derived.Test.Qxb6612669aModsMk
namespace Go.Proofs.Qxb6612669aMods
open Go.RowKit
open Go.Maps (Keyed)

theorem newFW (c : Bool) (b1 b2 : Nat) (w : World) :
    Calls Trym.prog 9 #[.bool c, .map (some b1), .map (some b2)] w fun e w' => e = .returned (.pointer (some ⟨w.heap.size, 0, none⟩)) ∧ Below w.heap.size w w' ∧ w.heap.size < w'.heap.size ∧
      w'.cell? ⟨w.heap.size, 0, none⟩ = some (.bool c) ∧ w'.cell? ⟨w.heap.size, 1, none⟩ = some (.map (some b1)) ∧ w'.cell? ⟨w.heap.size, 2, none⟩ = some (.map (some b2)) := by
  go_enter Trym.func9, Trym.ntmps9
  go_wp2
  go_ret
  exact ⟨rfl, (Below.refl _ _).alloc (Nat.le_refl _) _, by simp, by simp, by simp, by simp⟩

theorem ownsMap_later {R : Value → Option (DataW Unit × List MemPlace)} {w w' : World} {b n : Nat} {D : DataW Unit} (h : w.ownsMap Trym.prog 9 R b n D) (hb : Below w.heap.size w w') : w'.ownsMap Trym.prog 9 R b n D := by
  have hlt := h.lt
  obtain ⟨es, clock, h1, r⟩ := h
  exact ⟨es, clock, (hb.block b hlt).trans h1, r⟩

theorem Below.turn {B b : Nat} {a w w' : World} (h : Below B a w) (hg : w.grownBy w' (some b)) (hB : B ≤ w.heap.size) (hb : B ≤ b) : Below B a w' := h.grown hg hB (fun k hk => by cases hk; exact hb)

theorem clear_S {w : World} {b n : Nat} {D : DataW Unit} (h : OwnS w b n D) :
    ∃ w', (∀ ty, (Builtin.clear_ #[26] ty #[.map (some b)]).run Trym.prog w = .ok (.tuple #[]) w') ∧ OwnS w' b n (.map []) ∧ w.mapTurned w' b := by
  obtain ⟨es, clock, hb, F, hs, rfl⟩ := h
  refine ⟨ChangeMaps.setBlock w b (.map #[] clock), fun ty => ?_, ⟨#[], clock, ChangeMaps.heap_setBlock_same hb _, ⟨by simp, MapKept.stamped_empty clock, by simp⟩, Nat.zero_le _, rfl⟩, ⟨es, clock, #[], clock, hb, rfl⟩⟩
  simp [Builtin.clear_, run_underlying Trym.underlying26, MapKept.run_getObj_map hb, MapKept.run_setObj_map _ hb, Result.andThen, ChangeMaps.setBlock]

theorem drop_S {w : World} {b n : Nat} {D : DataW Unit} (h : OwnS w b n D) {s : ByteArray} (hs : s.size ≤ maxLen) (ty : TypeId) :
    ∃ w', (Builtin.delete_ #[26, 9] ty #[.map (some b), .string s]).run Trym.prog w = .ok (.tuple #[]) w' ∧ OwnS w' b n (D.del (.string s.data.toList)) ∧ w.mapTurned w' b :=
  World.ownsMap.drop h law Trym.underlying26 (WideMaps.keyOf_string_mk Trym.underlying9 hs) ty

section
variable {w : World} {ops : Array Oper} {rest : List Oper} {o : Oper} {a : Act} {Q : Exit → Act → World → Prop}

/-- The step of a range over a map[string]bool. -/
theorem next_B (hg : o.guard = none) (it : Operand) (hop : o.op = Op.next it false) (b r n : Nat) (D : DataW Unit) (left : Lit → Bool) (cnt : Nat)
    (hit : a.eval it = .pointer (some ⟨r, 0, none⟩)) (h : w.ranges Trym.prog 9 (plainElem Trym.prog 4) b r n D left cnt)
    (hDone : (∀ kl, left kl = false) → wpList Trym.prog ops Q rest (a.put o.dst (.tuple #[.bool false])) w)
    (hMore : ∀ (x : ByteArray) (v : Value) (w' : World) (cnt' : Nat), x.size ≤ maxLen → left (.string x.data.toList) = true → Maps.has D (.string x.data.toList) = true → w'.ranges Trym.prog 9 (plainElem Trym.prog 4) b r n D (fun z => left z && !z.sameKey (.string x.data.toList)) cnt' → cnt' < cnt →
      w.grownBy w' (some r) → w'.heap.size = w.heap.size → (Instr.entry (.pointer (some ⟨r, 0, none⟩))).run Trym.prog w' = .ok (.tuple #[.string x, v]) w' → wpList Trym.prog ops Q rest (a.put o.dst (.tuple #[.bool true, .string x, v])) w') :
    wpList Trym.prog ops Q (o :: rest) a w :=
  wpList_next_ranges w hg it hop 9 law (plainElem Trym.prog 4) Value.string id (fun key kl hkey => by obtain ⟨x, rfl, _⟩ := WideMaps.string_of_keyOf Trym.underlying9 hkey; exact ⟨x, rfl⟩)
    (fun v y hv => ⟨v, rfl⟩)
    b r n D left cnt hit h (fun _ hl => hDone hl) (fun x c kl y w' cnt' hkey hlk hv hat hrg hlt hgr hsz hen => by
      obtain ⟨x', ex, rfl, hwx⟩ := WideMaps.string_of_keyOf Trym.underlying9 hkey
      cases ex
      exact hMore x c w' cnt' hwx hlk (Maps.has_true_of_atKey hat) hrg hlt hgr hsz hen)

/-- The step of a range over a map[string]string. -/
theorem next_S (hg : o.guard = none) (it : Operand) (hop : o.op = Op.next it false) (b r n : Nat) (D : DataW Unit) (left : Lit → Bool) (cnt : Nat)
    (hit : a.eval it = .pointer (some ⟨r, 0, none⟩)) (h : w.ranges Trym.prog 9 (plainElem Trym.prog 9) b r n D left cnt)
    (hDone : (∀ kl, left kl = false) → wpList Trym.prog ops Q rest (a.put o.dst (.tuple #[.bool false])) w)
    (hMore : ∀ (x c : ByteArray) (w' : World) (cnt' : Nat), x.size ≤ maxLen → c.size ≤ maxLen → left (.string x.data.toList) = true → (∀ zd, D.atKey (.string x.data.toList) zd = .lit (.string c.data.toList)) → w'.ranges Trym.prog 9 (plainElem Trym.prog 9) b r n D (fun z => left z && !z.sameKey (.string x.data.toList)) cnt' → cnt' < cnt →
      w.grownBy w' (some r) → w'.heap.size = w.heap.size → (Instr.entry (.pointer (some ⟨r, 0, none⟩))).run Trym.prog w' = .ok (.tuple #[.string x, .string c]) w' → wpList Trym.prog ops Q rest (a.put o.dst (.tuple #[.bool true, .string x, .string c])) w') :
    wpList Trym.prog ops Q (o :: rest) a w :=
  wpList_next_ranges w hg it hop 9 law (plainElem Trym.prog 9) Value.string Value.string (fun key kl hkey => by obtain ⟨x, rfl, _⟩ := WideMaps.string_of_keyOf Trym.underlying9 hkey; exact ⟨x, rfl⟩)
    (fun v y hv => by obtain ⟨s, rfl, _⟩ := plainElem_string_inv Trym.underlying9 hv; exact ⟨s, rfl⟩)
    b r n D left cnt hit h (fun _ hl => hDone hl) (fun x c kl y w' cnt' hkey hlk hv hat hrg hlt hgr hsz hen => by
      obtain ⟨x', ex, rfl, hwx⟩ := WideMaps.string_of_keyOf Trym.underlying9 hkey
      cases ex
      obtain ⟨c', ec, rfl, hwc⟩ := plainElem_string_inv Trym.underlying9 hv
      cases ec
      exact hMore x c w' cnt' hwx hwc hlk hat hrg hlt hgr hsz hen)
end

set_option maxHeartbeats 1000000 in
theorem overlayT (c : Bool) (bh bs be bd ns ne nd : Nat) (S E D : DataW Unit) (w : World)
    (h0 : w.cell? ⟨bh, 0, none⟩ = some (.bool c)) (h1 : w.cell? ⟨bh, 1, none⟩ = some (.map (some bs))) (h2 : w.cell? ⟨bh, 2, none⟩ = some (.map (some be)))
    (oS : OwnS w bs ns S) (oE : OwnB w be ne E) (oD : OwnS w bd nd D) (n1 : bs ≠ bd) (n2 : be ≠ bd) (n3 : bh ≠ bd) (hm : nd + ns < maxLen) :
    Calls Trym.prog 15 #[.pointer (some ⟨bh, 0, none⟩), .map (some bd)] w fun e w' => e = .returned (.tuple #[]) ∧ w.grownBy w' (some bd) ∧ ∃ D', OwnS w' bd (nd + ns) D' ∧ ∀ k, gt D' k = ov c S E D k := by
  obtain ⟨wc, hclr, hoc, hturn⟩ := clear_S oD
  have hlt := World.ownsMap.lt oD
  cases c
  · have oEa : OwnB w be ne E := oE
    have oSa : OwnS w bs ns S := oS
    have oDa : OwnS w bd nd D := oD
    have h1a : w.cell? ⟨bh, 1, none⟩ = some (.map (some bs)) := h1
    have h2a : w.cell? ⟨bh, 2, none⟩ = some (.map (some be)) := h2
    have hga : w.grownBy w (some bd) := World.grownBy.refl _ _
    have hra : w.heap.size ≤ w.heap.size := hga.size
    have g0 : ∀ k, gt D k = if false then none else gt D k := fun k => by simp
    have HG0 : Hid (∀ k, gt D k = ovDel false E D (Maps.has E) k) := ovDel_start false E D D g0
    clear g0
    go_enter Trym.func15, Trym.ntmps15
    go_wp2_with (first | (at_range; refine wpList_range_own _ rfl _ 28 rfl 9 4 law Trym.underlying28 _ be ne E rfl oEa ?_; intro w0 hrg0 hg0 hs0))
    go_frame
    go_loopw [4] (fun _ wr => ∃ left cnt Dr, wr.ranges Trym.prog 9 (plainElem Trym.prog 4) be w.heap.size ne E left cnt ∧ OwnS wr bd nd Dr ∧ Hid (∀ k, gt Dr k = ovDel false E D left k) ∧ w.grownBy wr (some bd)) (fun _ wr => wr.rangeLeft be w.heap.size)
    case atStart => exact ⟨_, _, D, hrg0, World.ownsMap.kept oDa hg0 (by simp), HG0, hga.andThen hg0 (fun j hj => by cases hj)⟩
    case round =>
      obtain ⟨left, cnt, Dr, hrg, hoD, hgD, hgw⟩ := hrel
      clear hrg0 hg0 hs0 HG0
      go_wp2_with (first | (at_next; refine next_B rfl _ rfl be w.heap.size ne E left cnt rfl hrg ?_ ?_))
      · intro hl
        have HG1 : Hid (∀ k, gt Dr k = ovSet false S E D (Maps.has S) k) := ovDel_end hl hgD.out S
        have h1b : wr.cell? ⟨bh, 1, none⟩ = some (.map (some bs)) := hgw.cell h1 (fun e => n3 (Option.some.inj e))
        have oSb : OwnS wr bs ns S := World.ownsMap.kept oS hgw (fun e => n1 (Option.some.inj e))
        have hsz := World.ownsMap.size_le oSb
        go_wp2_with (first | (at_range; refine wpList_range_own _ rfl _ 26 rfl 9 9 law Trym.underlying26 _ bs ns S rfl oSb ?_; intro w0' hrg0 hg0 hs0))
        go_frame
        go_loopw [5] (fun _ wx => ∃ left cnt Dx m, wx.ranges Trym.prog 9 (plainElem Trym.prog 9) bs wr.heap.size ns S left cnt ∧ OwnS wx bd m Dx ∧ m + cnt ≤ nd + ns ∧ Hid (∀ k, gt Dx k = ovSet false S E D left k) ∧ w.grownBy wx (some bd)) (fun _ wx => wx.rangeLeft bs wr.heap.size)
        case atStart => exact ⟨_, _, Dr, nd, hrg0, World.ownsMap.kept hoD hg0 (by simp), by omega, HG1, hgw.andThen hg0 (fun j hj => by cases hj)⟩
        case round =>
          obtain ⟨left, cnt, Dx, m, hrg, hoD, hmc, hgD, hgx⟩ := hrel
          clear hrg0 hg0 hs0 HG1
          go_wp2_with (first | (at_next; refine next_S rfl _ rfl bs _ ns S left cnt rfl hrg ?_ ?_))
          · intro hl
            go_wp2
            go_end0
            exact ⟨rfl, hgx, Dx, World.ownsMap.mono hoD (by omega), ovSet_end hl hgD.out⟩
          · intro x v w1 cnt1 hx hv hlx hat hrg1 hlt1 hg1 hs1 hen
            have hoD1 : OwnS w1 bd m Dx := World.ownsMap.kept hoD hg1 (fun e => by have := Option.some.inj e; have := hgw.size; omega)
            go_wp2_with (first | (at_mapUpdate; refine wpList_mapUpdate_in _ rfl _ _ _ 26 rfl 9 9 law Trym.underlying26 _ bd m Dx rfl hoD1 (by omega) _ _ _ rfl rfl (WideMaps.keyOf_string_mk Trym.underlying9 hx) _ _ (plainElem_string Trym.underlying9 hv) ?_; intro w2 hoD2 htn))
            go_frame
            go_roundw
            case rel =>
              exact ⟨_, cnt1, Dx.put _ _, m + 1, hrg1.kept htn.grown (fun e => n1 (Option.some.inj e)) (fun e => by have := Option.some.inj e; have := hgw.size; omega), hoD2, by omega,
                ovSet_step (World.ownsMap.isMap hoD) (show WideAt.IsKeyLit (.string _) from trivial) hat hgD.out,
                (hgx.andThen hg1 (fun j hj => by cases hj; have := hgw.size; omega)).andThen htn.grown (fun j hj => Or.inr hj)⟩
            case measure =>
              rw [hrg.left_eq, (hrg1.kept htn.grown (fun e => n1 (Option.some.inj e)) (fun e => by have := Option.some.inj e; have := hgw.size; omega)).left_eq]; omega
      · intro x v w1 cnt1 hx hlx hat hrg1 hlt1 hg1 hs1 hen
        have hoD1 : OwnS w1 bd nd Dr := World.ownsMap.kept hoD hg1 (fun e => by have := Option.some.inj e; omega)
        go_wp2_with (first | (at_delete; refine wpList_delete_own _ rfl _ _ 26 9 rfl 9 law Trym.underlying26 _ bd nd Dr rfl hoD1 _ _ rfl (WideMaps.keyOf_string_mk Trym.underlying9 hx) ?_; intro w2 hoD2 htn))
        go_frame
        go_roundw
        case rel =>
          exact ⟨_, cnt1, Dr.del _, hrg1.kept htn.grown (fun e => n2 (Option.some.inj e)) (fun e => by have := Option.some.inj e; omega), hoD2,
            ovDel_step (show WideAt.IsKeyLit (.string _) from trivial) hat hgD.out,
            (hgw.andThen hg1 (fun j hj => by cases hj; omega)).andThen htn.grown (fun j hj => Or.inr hj)⟩
        case measure =>
          rw [hrg.left_eq, (hrg1.kept htn.grown (fun e => n2 (Option.some.inj e)) (fun e => by have := Option.some.inj e; omega)).left_eq]; omega
  · have oEa : OwnB wc be ne E := World.ownsMap.kept oE hturn.grown (fun e => n2 (Option.some.inj e))
    have oSa : OwnS wc bs ns S := World.ownsMap.kept oS hturn.grown (fun e => n1 (Option.some.inj e))
    have oDa : OwnS wc bd nd (.map []) := hoc
    have h1a : wc.cell? ⟨bh, 1, none⟩ = some (.map (some bs)) := hturn.grown.cell h1 (fun e => n3 (Option.some.inj e))
    have h2a : wc.cell? ⟨bh, 2, none⟩ = some (.map (some be)) := hturn.grown.cell h2 (fun e => n3 (Option.some.inj e))
    have hga : w.grownBy wc (some bd) := hturn.grown
    have hra : w.heap.size ≤ wc.heap.size := hga.size
    have g0 : ∀ k, gt (.map []) k = if true then none else gt D k := fun k => by simp [gt_empty]
    have HG0 : Hid (∀ k, gt (.map []) k = ovDel true E D (Maps.has E) k) := ovDel_start true E D (.map []) g0
    clear g0
    go_enter Trym.func15, Trym.ntmps15
    go_wp2_with (first | (at_range; refine wpList_range_own _ rfl _ 28 rfl 9 4 law Trym.underlying28 _ be ne E rfl oEa ?_; intro w0 hrg0 hg0 hs0))
    go_frame
    go_loopw [4] (fun _ wr => ∃ left cnt Dr, wr.ranges Trym.prog 9 (plainElem Trym.prog 4) be wc.heap.size ne E left cnt ∧ OwnS wr bd nd Dr ∧ Hid (∀ k, gt Dr k = ovDel true E D left k) ∧ w.grownBy wr (some bd)) (fun _ wr => wr.rangeLeft be wc.heap.size)
    case atStart => exact ⟨_, _, (.map []), hrg0, World.ownsMap.kept oDa hg0 (by simp), HG0, hga.andThen hg0 (fun j hj => by cases hj)⟩
    case round =>
      obtain ⟨left, cnt, Dr, hrg, hoD, hgD, hgw⟩ := hrel
      clear hrg0 hg0 hs0 HG0
      go_wp2_with (first | (at_next; refine next_B rfl _ rfl be wc.heap.size ne E left cnt rfl hrg ?_ ?_))
      · intro hl
        have HG1 : Hid (∀ k, gt Dr k = ovSet true S E D (Maps.has S) k) := ovDel_end hl hgD.out S
        have h1b : wr.cell? ⟨bh, 1, none⟩ = some (.map (some bs)) := hgw.cell h1 (fun e => n3 (Option.some.inj e))
        have oSb : OwnS wr bs ns S := World.ownsMap.kept oS hgw (fun e => n1 (Option.some.inj e))
        have hsz := World.ownsMap.size_le oSb
        go_wp2_with (first | (at_range; refine wpList_range_own _ rfl _ 26 rfl 9 9 law Trym.underlying26 _ bs ns S rfl oSb ?_; intro w0' hrg0 hg0 hs0))
        go_frame
        go_loopw [5] (fun _ wx => ∃ left cnt Dx m, wx.ranges Trym.prog 9 (plainElem Trym.prog 9) bs wr.heap.size ns S left cnt ∧ OwnS wx bd m Dx ∧ m + cnt ≤ nd + ns ∧ Hid (∀ k, gt Dx k = ovSet true S E D left k) ∧ w.grownBy wx (some bd)) (fun _ wx => wx.rangeLeft bs wr.heap.size)
        case atStart => exact ⟨_, _, Dr, nd, hrg0, World.ownsMap.kept hoD hg0 (by simp), by omega, HG1, hgw.andThen hg0 (fun j hj => by cases hj)⟩
        case round =>
          obtain ⟨left, cnt, Dx, m, hrg, hoD, hmc, hgD, hgx⟩ := hrel
          clear hrg0 hg0 hs0 HG1
          go_wp2_with (first | (at_next; refine next_S rfl _ rfl bs _ ns S left cnt rfl hrg ?_ ?_))
          · intro hl
            go_wp2
            go_end0
            exact ⟨rfl, hgx, Dx, World.ownsMap.mono hoD (by omega), ovSet_end hl hgD.out⟩
          · intro x v w1 cnt1 hx hv hlx hat hrg1 hlt1 hg1 hs1 hen
            have hoD1 : OwnS w1 bd m Dx := World.ownsMap.kept hoD hg1 (fun e => by have := Option.some.inj e; have := hgw.size; omega)
            go_wp2_with (first | (at_mapUpdate; refine wpList_mapUpdate_in _ rfl _ _ _ 26 rfl 9 9 law Trym.underlying26 _ bd m Dx rfl hoD1 (by omega) _ _ _ rfl rfl (WideMaps.keyOf_string_mk Trym.underlying9 hx) _ _ (plainElem_string Trym.underlying9 hv) ?_; intro w2 hoD2 htn))
            go_frame
            go_roundw
            case rel =>
              exact ⟨_, cnt1, Dx.put _ _, m + 1, hrg1.kept htn.grown (fun e => n1 (Option.some.inj e)) (fun e => by have := Option.some.inj e; have := hgw.size; omega), hoD2, by omega,
                ovSet_step (World.ownsMap.isMap hoD) (show WideAt.IsKeyLit (.string _) from trivial) hat hgD.out,
                (hgx.andThen hg1 (fun j hj => by cases hj; have := hgw.size; omega)).andThen htn.grown (fun j hj => Or.inr hj)⟩
            case measure =>
              rw [hrg.left_eq, (hrg1.kept htn.grown (fun e => n1 (Option.some.inj e)) (fun e => by have := Option.some.inj e; have := hgw.size; omega)).left_eq]; omega
      · intro x v w1 cnt1 hx hlx hat hrg1 hlt1 hg1 hs1 hen
        have hoD1 : OwnS w1 bd nd Dr := World.ownsMap.kept hoD hg1 (fun e => by have := Option.some.inj e; omega)
        go_wp2_with (first | (at_delete; refine wpList_delete_own _ rfl _ _ 26 9 rfl 9 law Trym.underlying26 _ bd nd Dr rfl hoD1 _ _ rfl (WideMaps.keyOf_string_mk Trym.underlying9 hx) ?_; intro w2 hoD2 htn))
        go_frame
        go_roundw
        case rel =>
          exact ⟨_, cnt1, Dr.del _, hrg1.kept htn.grown (fun e => n2 (Option.some.inj e)) (fun e => by have := Option.some.inj e; omega), hoD2,
            ovDel_step (show WideAt.IsKeyLit (.string _) from trivial) hat hgD.out,
            (hgw.andThen hg1 (fun j hj => by cases hj; omega)).andThen htn.grown (fun j hj => Or.inr hj)⟩
        case measure =>
          rw [hrg.left_eq, (hrg1.kept htn.grown (fun e => n2 (Option.some.inj e)) (fun e => by have := Option.some.inj e; omega)).left_eq]; omega
end Go.Proofs.Qxb6612669aMods
