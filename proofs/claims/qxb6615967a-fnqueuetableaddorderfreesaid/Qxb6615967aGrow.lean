/-
  The table as a whole; grow.
-/
import Derived.Test.Qxb6615967aTab
namespace Go.Proofs.Qxb6615967a
open Go.RowKit

/-- Below B nothing but block tb has turned. -/
structure Fr (tb B : Nat) (w w' : World) : Prop where
  os : w'.os = w.os
  tape : w'.tape = w.tape
  output : w'.output = w.output
  size : w.heap.size ≤ w'.heap.size
  block : ∀ k, k < B → k ≠ tb → w'.heap[k]? = w.heap[k]?

theorem Fr.refl (tb B : Nat) (w : World) : Fr tb B w w := ⟨rfl, rfl, rfl, Nat.le_refl _, fun _ _ _ => rfl⟩
theorem Fr.trans {tb B : Nat} {a b c : World} (h : Fr tb B a b) (k : Fr tb B b c) : Fr tb B a c :=
  ⟨k.os.trans h.os, k.tape.trans h.tape, k.output.trans h.output, Nat.le_trans h.size k.size, fun i hi hr => (k.block i hi hr).trans (h.block i hi hr)⟩
theorem Fr.drewN {tb B : Nat} {a b : World} (h : Fr tb B a b) (n : Nat) : Fr tb B a (b.drewN n) := h.trans ⟨rfl, rfl, rfl, Nat.le_refl _, fun _ _ _ => rfl⟩
theorem Fr.setCell {tb B : Nat} {a b : World} (h : Fr tb B a b) (p : Addr) (v : Value) (hp : B ≤ p.block ∨ p.block = tb) : Fr tb B a (b.setCell p v) :=
  h.trans ⟨rfl, rfl, rfl, by simp [World.setCell], fun k hk hne => Deep.blk_setCell_other _ _ _ _ (by omega)⟩
theorem Fr.alloc {tb B : Nat} {a b : World} (h : Fr tb B a b) (o : Obj) (hB : B ≤ b.heap.size) : Fr tb B a (b.alloc o) :=
  h.trans ⟨rfl, rfl, rfl, by simp, fun k hk _ => Deep.blk_alloc_lt _ _ _ (by omega)⟩

/-- A queue table of 'len' queues, its chains cs; what it has made of its own lies from block B on. -/
structure Tab (w : World) (tb B len : Nat) (cs : List (List Nd)) : Prop where
  ex : ∃ a C, TabAt w tb (.slice a cs.length cs.length) len ∧ (cs.length = 0 → a = none) ∧ (0 < cs.length → a = some ⟨C, 0, none⟩ ∧ Chs w C cs ∧ B ≤ C)
  nodup : (cs.flatten.map Prod.fst).Nodup
  own : ∀ x ∈ cs.flatten, B ≤ x.1
  small : ∀ x ∈ cs.flatten, x.2 < 18446744073709551616

/-- In the middle of grow: r is left of the chain in hand, rest are the chains to come, ns the new ones in row N. -/
structure GS (w : World) (tb B len N nc : Nat) (all r : List Nd) (rest ns : List (List Nd)) (wr : World) : Prop where
  tab : TabAt wr tb (.slice (some ⟨N, 0, none⟩) nc nc) len
  chs : Chs wr N ns
  len : ns.length = nc
  lr : Links wr r
  lrest : ∀ l ∈ rest, Links wr l
  nd : ((r ++ (rest.flatten ++ ns.flatten)).map Prod.fst).Nodup
  perm : (r ++ (rest.flatten ++ ns.flatten)).Perm all
  fr : Fr tb B w wr
  old : ∀ k c t, w.heap[k]? = some (.cells c t (0, 0)) → t ≠ 59 → k ≠ tb → k < N → wr.heap[k]? = w.heap[k]?

theorem GS.drewN {w : World} {tb B len N nc : Nat} {all r : List Nd} {rest ns : List (List Nd)} {wr : World} (h : GS w tb B len N nc all r rest ns wr) (d : Nat) : GS w tb B len N nc all r rest ns (wr.drewN d) :=
  ⟨h.tab.of_block rfl, h.chs.of_blocks rfl (fun _ _ _ _ => rfl), h.len, h.lr.of_blocks (fun _ _ => rfl), fun l hl => (h.lrest l hl).of_blocks (fun _ _ => rfl), h.nd, h.perm, h.fr.drewN d, h.old⟩

/-- The chain in hand is done: the next. -/
theorem GS.turn {w : World} {tb B len N nc : Nat} {all : List Nd} {l : List Nd} {rest ns : List (List Nd)} {wr : World} (h : GS w tb B len N nc all [] (l :: rest) ns wr) : GS w tb B len N nc all l rest ns wr := by
  refine ⟨h.tab, h.chs, h.len, h.lrest l (by simp), fun m hm => h.lrest m (by simp [hm]), ?_, ?_, h.fr, h.old⟩
  · have := h.nd; simpa [List.append_assoc] using this
  · have := h.perm; simpa [List.append_assoc] using this

theorem GS.step {w : World} {tb B len N nc : Nat} {all : List Nd} {x : Nd} {r : List Nd} {rest ns : List (List Nd)} {wr : World} (h : GS w tb B len N nc all (x :: r) rest ns wr) (h0 : 0 < nc) (hB : B ≤ N) (hx : B ≤ x.1) :
    GS w tb B len N nc all r rest (push ns (pk nc x.2) x) ((wr.setCell ⟨x.1, 6, none⟩ (.pointer (hd (ns.getD (pk nc x.2) [])))).setCell ⟨N, pk nc x.2, none⟩ (.pointer (some ⟨x.1, 0, none⟩))) := by
  have hlen := h.len
  subst hlen
  have hnd := h.nd
  rw [List.cons_append, List.map_cons, List.nodup_cons] at hnd
  obtain ⟨hnot, hnd'⟩ := hnd
  have hmem : ∀ y, y ∈ r ∨ y ∈ rest.flatten ∨ y ∈ ns.flatten → y.1 ≠ x.1 := by
    intro y hy e
    apply hnot
    rw [← e]
    refine List.mem_map.2 ⟨y, ?_, rfl⟩
    simpa [List.mem_append] using hy
  obtain ⟨cN, hNb, _⟩ := h.chs.row
  obtain ⟨cx, hxb, _⟩ := h.lr.1
  have hxN : x.1 ≠ N := by intro e; rw [e, hNb] at hxb; simp at hxb
  have htb := h.tab
  unfold TabAt at htb
  have htx : tb ≠ x.1 := by intro e; rw [e, hxb] at htb; simp at htb
  have htN : tb ≠ N := by intro e; rw [e, hNb] at htb; simp at htb
  have keep : ∀ l, (∀ y ∈ l, y.1 ≠ x.1) → Links wr l → Links ((wr.setCell ⟨x.1, 6, none⟩ (.pointer (hd (ns.getD (pk ns.length x.2) [])))).setCell ⟨N, pk ns.length x.2, none⟩ (.pointer (some ⟨x.1, 0, none⟩))) l := by
    intro l hl hL
    refine hL.of_blocks (fun y hy => ?_)
    rw [Deep.blk_setCell_other _ _ _ _ (show y.1 ≠ N from hL.type hNb (by decide) y hy), Deep.blk_setCell_other _ _ _ _ (show y.1 ≠ x.1 from hl y hy)]
  have hpf := push_flatten x ns (pk ns.length x.2) (pk_lt h0)
  have hperm : (r ++ (rest.flatten ++ (push ns (pk ns.length x.2) x).flatten)).Perm (x :: (r ++ (rest.flatten ++ ns.flatten))) := by
    have e1 := (hpf.append_left rest.flatten).trans (List.perm_middle (a := x) (l₁ := rest.flatten) (l₂ := ns.flatten))
    exact (e1.append_left r).trans List.perm_middle
  refine ⟨?_, h.chs.push h0 h.lr.1 (fun l hl y hy => hmem y (.inr (.inr (List.mem_flatten.2 ⟨l, hl, hy⟩)))), push_length _ _ _, keep r (fun y hy => hmem y (.inl hy)) h.lr.2,
    fun l hl => keep l (fun y hy => hmem y (.inr (.inl (List.mem_flatten.2 ⟨l, hl, hy⟩)))) (h.lrest l hl), ?_, hperm.trans h.perm, ?_, fun k c t hc ht hk hlt => ?_⟩
  · exact h.tab.of_block (by rw [Deep.blk_setCell_other _ _ _ _ (show tb ≠ N from htN), Deep.blk_setCell_other _ _ _ _ (show tb ≠ x.1 from htx)])
  · refine ((hperm.map Prod.fst).nodup_iff).2 ?_
    rw [List.map_cons, List.nodup_cons]
    exact ⟨hnot, hnd'⟩
  · exact (h.fr.setCell _ _ (.inl hx)).setCell _ _ (.inl hB)
  · have hold := h.old k c t hc ht hk hlt
    have hkx : k ≠ x.1 := by
      intro e
      rw [← e, hold, hc] at hxb
      simp at hxb
      exact ht hxb.2
    rw [Deep.blk_setCell_other _ _ _ _ (show k ≠ N by omega), Deep.blk_setCell_other _ _ _ _ (show k ≠ x.1 from hkx)]
    exact hold

end Go.Proofs.Qxb6615967a
