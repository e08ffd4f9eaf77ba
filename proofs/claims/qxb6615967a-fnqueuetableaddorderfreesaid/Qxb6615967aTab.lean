/-
  The queue table as lists of chains: plain laws; what a push of one queue onto a chain does to memory.
-/
import Derived.Test.Qxb6615967aBase
namespace Go.Proofs.Qxb6615967a
open Go.RowKit

/-! ### Plain lists -/
/-- One queue put at the head of chain k. -/
def push (cs : List (List Nd)) (k : Nat) (x : Nd) : List (List Nd) := cs.set k (x :: cs.getD k [])

theorem push_length (cs : List (List Nd)) (k : Nat) (x : Nd) : (push cs k x).length = cs.length := by simp [push]
theorem push_get (cs : List (List Nd)) (k : Nat) (x : Nd) (hk : k < cs.length) (j : Nat) : (push cs k x).getD j [] = if j = k then x :: cs.getD k [] else cs.getD j [] := by
  unfold push
  by_cases e : j = k
  · subst e; simp [List.getD, hk]
  · rw [if_neg e]; simp [List.getD, show ¬ k = j from fun h => e h.symm]
theorem push_mem {cs : List (List Nd)} {k : Nat} {x : Nd} {l : List Nd} (h : l ∈ push cs k x) : l = x :: cs.getD k [] ∨ l ∈ cs := by
  rcases List.mem_or_eq_of_mem_set h with h | h
  · exact .inr h
  · exact .inl h
theorem push_flatten (x : Nd) : ∀ (cs : List (List Nd)) (k : Nat), k < cs.length → (push cs k x).flatten.Perm (x :: cs.flatten)
  | [], _, h => absurd h (by simp)
  | c :: cs, 0, _ => by simp [push]
  | c :: cs, k + 1, h => by
    have ih := push_flatten x cs k (by simpa using h)
    have e : push (c :: cs) (k + 1) x = c :: push cs k x := by simp [push]
    rw [e, List.flatten_cons, List.flatten_cons]
    exact (ih.append_left c).trans List.perm_middle
theorem getD_mem {cs : List (List Nd)} {k : Nat} (hk : k < cs.length) : cs.getD k [] ∈ cs := by
  simp only [List.getD, List.getElem?_eq_getElem hk, Option.getD_some]
  exact List.getElem_mem hk

/-! ### Chains in memory -/
/-- New chains in row C, each queue in the chain that its hash picks. -/
structure Chs (w : World) (C : Nat) (cs : List (List Nd)) : Prop where
  row : w.rowIs C 32 cs.length (fun k => .pointer (hd (cs.getD k [])))
  links : ∀ l ∈ cs, Links w l
  fit : ∀ k, k < cs.length → ∀ x ∈ cs.getD k [], pk cs.length x.2 = k

/-- What the two stores of a push leave: 'q.next, *c = *c, q'. -/
theorem Chs.push {w : World} {C : Nat} {cs : List (List Nd)} (h : Chs w C cs) (h0 : 0 < cs.length) {x : Nd} {p : Option Addr} (hq : Qu w x.1 x.2 p) (hne : ∀ l ∈ cs, ∀ y ∈ l, y.1 ≠ x.1) :
    Chs ((w.setCell ⟨x.1, 6, none⟩ (.pointer (hd (cs.getD (pk cs.length x.2) [])))).setCell ⟨C, pk cs.length x.2, none⟩ (.pointer (some ⟨x.1, 0, none⟩))) C (push cs (pk cs.length x.2) x) := by
  have hk := pk_lt (h := x.2) h0
  have hq' := hq
  obtain ⟨cx, hxb, _⟩ := hq
  obtain ⟨cC, hCb, _⟩ := h.row
  have hxC : x.1 ≠ C := by
    intro e
    rw [e, hCb] at hxb
    simp at hxb
  -- the row
  have hrow : ((w.setCell ⟨x.1, 6, none⟩ (.pointer (hd (cs.getD (pk cs.length x.2) [])))).setCell ⟨C, pk cs.length x.2, none⟩ (.pointer (some ⟨x.1, 0, none⟩))).rowIs C 32 cs.length
      (fun k => .pointer (hd ((Qxb6615967a.push cs (pk cs.length x.2) x).getD k []))) := by
    refine ((h.row.setOther (a := ⟨x.1, 6, none⟩) (fun e => hxC e.symm) _).set _ _).congr (fun j hj => ?_)
    rw [push_get cs _ x hk]
    by_cases e : j = pk cs.length x.2
    · simp [e, hd]
    · simp [e]
  -- old chains
  have hold : ∀ l, (∀ y ∈ l, y.1 ≠ x.1) → Links w l → Links ((w.setCell ⟨x.1, 6, none⟩ (.pointer (hd (cs.getD (pk cs.length x.2) [])))).setCell ⟨C, pk cs.length x.2, none⟩ (.pointer (some ⟨x.1, 0, none⟩))) l := by
    intro l hl hL
    refine hL.of_blocks (fun y hy => ?_)
    rw [Deep.blk_setCell_other _ _ _ _ (show y.1 ≠ C from hL.type hCb (by decide) y hy), Deep.blk_setCell_other _ _ _ _ (show y.1 ≠ x.1 from hl y hy)]
  refine ⟨by rw [push_length]; exact hrow, fun l hl => ?_, fun k hk' y hy => ?_⟩
  · rcases push_mem hl with rfl | hl
    · refine ⟨?_, hold _ (hne _ (getD_mem hk)) (h.links _ (getD_mem hk))⟩
      exact (Qu.setNext hq' _).of_block (Deep.blk_setCell_other _ _ _ _ hxC)
    · exact hold l (hne l hl) (h.links l hl)
  · rw [push_length] at hk' ⊢
    rw [push_get cs _ x hk] at hy
    by_cases e : k = pk cs.length x.2
    · rw [if_pos e] at hy
      rcases List.mem_cons.1 hy with rfl | hy
      · exact e.symm
      · rw [e]; exact h.fit _ hk y hy
    · rw [if_neg e] at hy
      exact h.fit k hk' y hy

theorem Chs.of_blocks {w w' : World} {C : Nat} {cs : List (List Nd)} (h : Chs w C cs) (hC : w'.heap[C]? = w.heap[C]?) (hx : ∀ l ∈ cs, ∀ y ∈ l, w'.heap[y.1]? = w.heap[y.1]?) : Chs w' C cs :=
  ⟨h.row.of_block hC, fun l hl => (h.links l hl).of_blocks (hx l hl), h.fit⟩

end Go.Proofs.Qxb6615967a
