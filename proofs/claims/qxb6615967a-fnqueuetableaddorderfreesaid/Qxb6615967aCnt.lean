/-
  Plain laws on counts; tables carried from world to world.
-/
import Derived.Test.Qxb6615967aLook
namespace Go.Proofs.Qxb6615967a
open Go.RowKit

/-! ### Counts -/
/-- The first q hashes, the last of them first. -/
def hl (hs : Nat → Nat) : Nat → List Nat
  | 0 => []
  | q + 1 => hs q :: hl hs q
/-- How many of the first q hashes pick chain c among nc. -/
def cntp (nc : Nat) (hs : Nat → Nat) (c : Nat) : Nat → Nat
  | 0 => 0
  | q + 1 => cntp nc hs c q + if pk nc (hs q) = c then 1 else 0

theorem cntp_le (nc : Nat) (hs : Nat → Nat) (c : Nat) : ∀ q, cntp nc hs c q ≤ q
  | 0 => Nat.le_refl _
  | q + 1 => by
    have := cntp_le nc hs c q
    show cntp nc hs c q + (if pk nc (hs q) = c then 1 else 0) ≤ q + 1
    split <;> omega
theorem cntp_eq (nc : Nat) (hs : Nat → Nat) (c : Nat) : ∀ q, cntp nc hs c q = (hl hs q).countP (fun h => decide (pk nc h = c))
  | 0 => rfl
  | q + 1 => by
    show cntp nc hs c q + (if pk nc (hs q) = c then 1 else 0) = List.countP _ (hs q :: hl hs q)
    rw [List.countP_cons, cntp_eq nc hs c q]
    simp

/-- A chain holds just the queues whose hash picks it. -/
theorem chain_count (f : Nd → Nat) : ∀ (cs : List (List Nd)) (base : Nat), (∀ k, k < cs.length → ∀ x ∈ cs.getD k [], f x = base + k) → ∀ c, c < cs.length → (cs.getD c []).length = cs.flatten.countP (fun x => decide (f x = base + c))
  | [], _, _, c, hc => absurd hc (by simp)
  | l :: cs, base, h, c, hc => by
    have hl : ∀ x ∈ l, f x = base := fun x hx => by have := h 0 (by simp) x (by simpa using hx); omega
    have hr : ∀ k, k < cs.length → ∀ x ∈ cs.getD k [], f x = base + 1 + k := fun k hk x hx => by
      have := h (k + 1) (by simpa using hk) x (by simpa using hx)
      omega
    rw [List.flatten_cons, List.countP_append]
    cases c with
    | zero =>
      have e1 : l.countP (fun x => decide (f x = base + 0)) = l.length := by
        rw [List.countP_eq_length]
        intro x hx
        simp [hl x hx]
      have e2 : cs.flatten.countP (fun x => decide (f x = base + 0)) = 0 := by
        rw [List.countP_eq_zero]
        intro x hx
        obtain ⟨m, hm, hxm⟩ := List.mem_flatten.1 hx
        obtain ⟨k, hk, rfl⟩ := List.getElem_of_mem hm
        have := hr k hk x (by simpa [List.getD, hk] using hxm)
        simp
        omega
      rw [e1, e2]
      simp
    | succ c =>
      have e1 : l.countP (fun x => decide (f x = base + (c + 1))) = 0 := by
        rw [List.countP_eq_zero]
        intro x hx
        have := hl x hx
        simp
        omega
      have ih := chain_count f cs (base + 1) hr c (by simpa using hc)
      rw [e1, Nat.zero_add]
      have e3 : base + (c + 1) = base + 1 + c := by omega
      rw [e3, ← ih]
      simp

/-- How long a chain of a table is whose queues bear the first n hashes. -/
theorem chain_len {w : World} {C : Nat} {cs : List (List Nd)} {hs : Nat → Nat} {n c : Nat} (hC : Chs w C cs) (hp : (cs.flatten.map Prod.snd).Perm (hl hs n)) (hc : c < cs.length) : (cs.getD c []).length = cntp cs.length hs c n := by
  rw [cntp_eq, chain_count (fun x => pk cs.length x.2) cs 0 (fun k hk x hx => by rw [Nat.zero_add]; exact hC.fit k hk x hx) c hc, ← hp.countP_eq, List.countP_map]
  simp only [Nat.zero_add]
  rfl

/-! ### Tables from world to world -/
theorem Tab.alloc {w : World} {tb B len : Nat} {cs : List (List Nd)} (h : Tab w tb B len cs) (o : Obj) : Tab (w.alloc o) tb B len cs := by
  obtain ⟨a, C, h1, h2, h3⟩ := h.ex
  exact ⟨⟨a, C, h1.of_block (Deep.blk_alloc_lt _ _ _ h1.lt), h2, fun hp => ⟨(h3 hp).1, (h3 hp).2.1.of_blocks (Deep.blk_alloc_lt _ _ _ (h3 hp).2.1.row.lt) (fun l hl y hy => Deep.blk_alloc_lt _ _ _ (((h3 hp).2.1.links l hl).lt y hy)), (h3 hp).2.2⟩⟩, h.nodup, h.own, h.small⟩

/-- A table stands while another, made later, is filled. -/
theorem Tab.keep {w w' : World} {tb B len tb' : Nat} {cs : List (List Nd)} {v' : Value} {len' : Nat} (h : Tab w tb B len cs) (hf : Fr tb' w.heap.size w w') (hne : tb ≠ tb') (ht : TabAt w tb' v' len') : Tab w' tb B len cs := by
  obtain ⟨a, C, h1, h2, h3⟩ := h.ex
  refine ⟨⟨a, C, h1.of_block (hf.block tb h1.lt hne), h2, fun hp => ⟨(h3 hp).1, ?_, (h3 hp).2.2⟩⟩, h.nodup, h.own, h.small⟩
  have hC := (h3 hp).2.1
  obtain ⟨c, hc, _⟩ := hC.row
  refine hC.of_blocks (hf.block C hC.row.lt ?_) (fun l hl y hy => hf.block y.1 ((hC.links l hl).lt y hy) ((hC.links l hl).type ht (by decide) y hy))
  intro e
  unfold TabAt at ht
  rw [← e, hc] at ht
  simp at ht

theorem Tab.new {w : World} {tb B : Nat} (h : TabAt w tb (.slice none 0 0) 0) : Tab w tb B 0 [] :=
  ⟨⟨none, 0, h, (fun _ => rfl), (fun hp => absurd hp (by simp))⟩, by simp, (fun x hx => by cases hx), (fun x hx => by cases hx)⟩

end Go.Proofs.Qxb6615967a
