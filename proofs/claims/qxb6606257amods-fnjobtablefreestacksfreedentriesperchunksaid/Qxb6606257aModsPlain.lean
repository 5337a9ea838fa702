import Derived.Test.Qxb6606257aModsFree
import Derived.Test.Qxb6606257aModsBuild
import Derived.Test.Qxb6606257aModsPre
namespace Go.Proofs.Qxb6606257aMods

/-- The state behind i frees. -/
def frees (nch : Nat) (room : Int) (N : Nat → Nat) : Nat → St
  | 0 => St.full nch room
  | i + 1 => (frees nch room N i).free (N i)

/-- The numbers freed in chunk c, the last freed first. -/
def lst (N : Nat → Nat) (c : Nat) : Nat → List Nat
  | 0 => []
  | i + 1 => if N i / 4096 = c then N i :: lst N c i else lst N c i

def roomTo (room : Int) (N : Nat → Nat) : Nat → Int
  | 0 => room
  | i + 1 => min (roomTo room N i) ((N i / 4096 : Nat) : Int)

def sumTo (g : Nat → Nat) : Nat → Nat
  | 0 => 0
  | c + 1 => sumTo g c + g c

section
variable {nch : Nat} {room : Int} {N : Nat → Nat}

theorem lst_succ (c i : Nat) : lst N c (i + 1) = if N i / 4096 = c then N i :: lst N c i else lst N c i := rfl

theorem mem_lst {c x : Nat} : ∀ {i : Nat}, x ∈ lst N c i → ∃ j, j < i ∧ N j = x ∧ x / 4096 = c
  | 0, h => by cases h
  | i + 1, h => by
    unfold lst at h
    split at h
    · rename_i e
      rcases List.mem_cons.1 h with rfl | h
      · exact ⟨i, by omega, rfl, e⟩
      · obtain ⟨j, hj, r⟩ := mem_lst h
        exact ⟨j, by omega, r⟩
    · obtain ⟨j, hj, r⟩ := mem_lst h
      exact ⟨j, by omega, r⟩

theorem lst_len (c : Nat) : ∀ i, (lst N c i).length ≤ i
  | 0 => Nat.le_refl _
  | i + 1 => by
    have := lst_len c i
    unfold lst
    split
    · simp; omega
    · omega

theorem frees_freed (c : Nat) : ∀ i, (frees nch room N i).freed c = ((lst N c i).length : Int)
  | 0 => rfl
  | i + 1 => by
    have ih := frees_freed c i
    unfold lst
    show (if c = N i / 4096 then (frees nch room N i).freed (N i / 4096) + 1 else (frees nch room N i).freed c) = _
    by_cases e : c = N i / 4096
    · rw [if_pos e, if_pos e.symm, ← e, ih]; simp
    · rw [if_neg e, if_neg (fun h => e h.symm), ih]

theorem frees_first (c : Nat) : ∀ i, (frees nch room N i).first c = (((lst N c i).headD 0 : Nat) : Int)
  | 0 => rfl
  | i + 1 => by
    have ih := frees_first c i
    unfold lst
    show (if c = N i / 4096 then ((N i : Nat) : Int) else (frees nch room N i).first c) = _
    by_cases e : c = N i / 4096
    · rw [if_pos e, if_pos e.symm]; simp
    · rw [if_neg e, if_neg (fun h => e h.symm), ih]

theorem frees_room : ∀ i, (frees nch room N i).room = roomTo room N i
  | 0 => rfl
  | i + 1 => by
    have ih := frees_room i
    show min (frees nch room N i).room _ = min _ _
    rw [ih]

theorem frees_next : ∀ i, (frees nch room N i).next = nch * 4096
  | 0 => rfl
  | i + 1 => frees_next i

theorem frees_held : ∀ i, (frees nch room N i).held = nch * 4096
  | 0 => rfl
  | i + 1 => frees_held i

theorem frees_E (i e f : Nat) : (frees nch room N (i + 1)).E e f = if e = N i then vals8 0 0 (-1) 0 0 0 ((frees nch room N i).first (N i / 4096)) 0 f else (frees nch room N i).E e f := rfl

/-- An entry that has not been freed is as it was laid. -/
theorem frees_intact (e f : Nat) (he : e < nch * 4096) : ∀ i, inTo N i e = false → (frees nch room N i).E e f = init e f
  | 0, _ => by show (if e < nch * 4096 then init e f else 0) = _; rw [if_pos he]
  | i + 1, h => by
    unfold inTo at h
    rw [Bool.or_eq_false_iff] at h
    rw [frees_E, if_neg (fun e' => by rw [e'] at h; simp at h)]
    exact frees_intact e f he i h.2

/-- One that has been freed is blank. -/
theorem frees_blank (e f : Nat) (hf : f ≠ 6) : ∀ i, inTo N i e = true → (frees nch room N i).E e f = vals8 0 0 (-1) 0 0 0 0 0 f
  | 0, h => by cases h
  | i + 1, h => by
    rw [frees_E]
    by_cases e' : e = N i
    · rw [if_pos e']
      unfold vals8
      split <;> first | rfl | omega
    · rw [if_neg e']
      unfold inTo at h
      have : (N i == e) = false := by simpa using fun h => e' h.symm
      rw [this, Bool.false_or] at h
      exact frees_blank e f hf i h

/-- Each entry of the list names the next; the last one names 0; each is freed. -/
def Chain (s : St) : List Nat → Prop
  | [] => True
  | x :: r => s.E x 6 = ((r.headD 0 : Nat) : Int) ∧ s.E x 2 = -1 ∧ Chain s r

theorem Chain.free {s : St} {n : Nat} : ∀ {l : List Nat}, Chain s l → n ∉ l → Chain (s.free n) l
  | [], _, _ => trivial
  | x :: r, h, hn => by
    have hx : x ≠ n := fun e => hn (by rw [e]; simp)
    have hr : n ∉ r := fun hm => hn (List.mem_cons_of_mem _ hm)
    refine ⟨?_, ?_, Chain.free h.2.2 hr⟩
    · show (if x = n then _ else s.E x 6) = _
      rw [if_neg hx]; exact h.1
    · show (if x = n then _ else s.E x 2) = _
      rw [if_neg hx]; exact h.2.1

theorem Chain.drop {s : St} : ∀ {l : List Nat} (k : Nat), Chain s l → Chain s (l.drop k)
  | _, 0, h => h
  | [], _ + 1, _ => trivial
  | _ :: _, k + 1, h => Chain.drop k h.2.2

theorem frees_chain (c : Nat) : ∀ i, (∀ a b, a < i → b < i → N a = N b → a = b) → Chain (frees nch room N i) (lst N c i)
  | 0, _ => trivial
  | i + 1, hd => by
    have ih := frees_chain c i (fun a b ha hb => hd a b (by omega) (by omega))
    have hno : N i ∉ lst N c i := fun hm => by
      obtain ⟨j, hj, e, _⟩ := mem_lst hm
      have := hd j i (by omega) (by omega) e
      omega
    have h1 : Chain ((frees nch room N i).free (N i)) (lst N c i) := ih.free hno
    unfold lst
    split
    · rename_i e
      refine ⟨?_, ?_, h1⟩
      · show (if N i = N i then vals8 0 0 (-1) 0 0 0 ((frees nch room N i).first (N i / 4096)) 0 6 else _) = _
        rw [if_pos rfl, e, ← frees_first (nch := nch) (room := room)]
        rfl
      · show (if N i = N i then vals8 0 0 (-1) 0 0 0 ((frees nch room N i).first (N i / 4096)) 0 2 else _) = _
        rw [if_pos rfl]
        rfl
    · exact h1

theorem lst_nodup (c : Nat) : ∀ i, (∀ a b, a < i → b < i → N a = N b → a = b) → (lst N c i).Nodup
  | 0, _ => List.nodup_nil
  | i + 1, hd => by
    have ih := lst_nodup c i (fun a b ha hb => hd a b (by omega) (by omega))
    unfold lst
    split
    · refine List.nodup_cons.2 ⟨fun hm => ?_, ih⟩
      obtain ⟨j, hj, e, _⟩ := mem_lst hm
      have := hd j i (by omega) (by omega) e
      omega
    · exact ih

theorem sumTo_bump {g g' : Nat → Nat} {k : Nat} (h1 : g' k = g k + 1) (h2 : ∀ c, c ≠ k → g' c = g c) : ∀ n, sumTo g' n = sumTo g n + if k < n then 1 else 0
  | 0 => by simp [sumTo]
  | n + 1 => by
    have ih := sumTo_bump h1 h2 n
    unfold sumTo
    rw [ih]
    by_cases e : n = k
    · subst e; rw [h1, if_neg (by omega), if_pos (by omega)]; omega
    · rw [h2 n e]
      by_cases e2 : k < n
      · rw [if_pos e2, if_pos (by omega)]; omega
      · rw [if_neg e2, if_neg (by omega)]; omega

/-- AS MANY AS WERE FREED. -/
theorem sum_lst : ∀ i, (∀ j, j < i → N j < nch * 4096) → sumTo (fun c => (lst N c i).length) nch = i
  | 0, _ => by
    have : ∀ n, sumTo (fun _ => 0) n = 0 := fun n => by
      induction n with
      | zero => rfl
      | succ n ih => simp [sumTo, ih]
    exact this nch
  | i + 1, h => by
    have ih := sum_lst i (fun j hj => h j (by omega))
    have hk := h i (by omega)
    rw [sumTo_bump (g := fun c => (lst N c i).length) (k := N i / 4096), ih, if_pos (by omega)]
    · show (lst N (N i / 4096) (i + 1)).length = _
      rw [lst_succ, if_pos rfl]; simp
    · intro c hc
      show (lst N c (i + 1)).length = _
      rw [lst_succ, if_neg (fun e => hc e.symm)]

theorem sumTo_mono {g : Nat → Nat} : ∀ {a b : Nat}, a ≤ b → sumTo g a ≤ sumTo g b
  | a, 0, h => by have : a = 0 := by omega
                  subst this; exact Nat.le_refl _
  | a, b + 1, h => by
    by_cases e : a = b + 1
    · subst e; exact Nat.le_refl _
    · have := sumTo_mono (g := g) (a := a) (b := b) (by omega)
      show sumTo g a ≤ sumTo g b + g b
      omega

theorem roomTo_le : ∀ i j, j < i → roomTo room N i ≤ ((N j / 4096 : Nat) : Int)
  | 0, j, h => by omega
  | i + 1, j, h => by
    unfold roomTo
    by_cases e : j = i
    · subst e; omega
    · have := roomTo_le i j (by omega); omega

/-- No chunk below the room has a freed entry. -/
theorem below_room {c : Nat} {i : Nat} (h : (c : Int) < roomTo room N i) : lst N c i = [] := by
  cases hl : lst N c i with
  | nil => rfl
  | cons x r =>
    have hx : x ∈ lst N c i := by rw [hl]; simp
    obtain ⟨j, hj, e, hc⟩ := mem_lst hx
    have := roomTo_le (room := room) (N := N) i j hj
    rw [e, hc] at this
    omega
end
end Go.Proofs.Qxb6606257aMods
