/-
  The queue table in memory; the small functions' contracts.
-/
import Derived.Test.Qxb6615967aProg
import Derived.WalkKit
import Derived.WalkSpells
import Derived.WalkLawsBesides
import Derived.Deep.OwnRows
import Derived.Deep.LoopGhost
import Derived.Deep.QuietTactic
import Derived.BigQuiet
namespace Go.Proofs.Qxb6615967a
open Go.RowKit

theorem hide {p : Prop} (h : p) : Hid p := h

/-! ### A queue; a chain of them -/
/-- A queue's block, its hash. -/
abbrev Nd := Nat × Nat
/-- Block q is a queue with hash h and the next pointer p. -/
def Qu (w : World) (q : Nat) (h : Nat) (p : Option Addr) : Prop := ∃ cs : Array Value, w.heap[q]? = some (.cells cs 59 (0, 0)) ∧ cs.size = 31 ∧ cs[4]? = some (.int .u64 h) ∧ cs[6]? = some (.pointer p)
/-- The pointer to a chain's first queue. -/
def hd : List Nd → Option Addr
  | [] => none
  | x :: _ => some ⟨x.1, 0, none⟩
/-- The queues of a chain lie in memory, each leading to the next. -/
def Links (w : World) : List Nd → Prop
  | [] => True
  | x :: r => Qu w x.1 x.2 (hd r) ∧ Links w r

theorem Qu.of_block {w w' : World} {q h : Nat} {p : Option Addr} (k : Qu w q h p) (e : w'.heap[q]? = w.heap[q]?) : Qu w' q h p := by
  obtain ⟨cs, h1, h2, h3, h4⟩ := k
  exact ⟨cs, e.trans h1, h2, h3, h4⟩
theorem Qu.lt {w : World} {q h : Nat} {p : Option Addr} (k : Qu w q h p) : q < w.heap.size := by
  obtain ⟨cs, h1, _⟩ := k
  exact lt_of_block h1
theorem Qu.c4 {w : World} {q h : Nat} {p : Option Addr} (k : Qu w q h p) : w.cell? ⟨q, 4, none⟩ = some (.int .u64 h) := by
  obtain ⟨cs, h1, _, h3, _⟩ := k
  simp [World.cell?, h1, h3]
theorem Qu.c6 {w : World} {q h : Nat} {p : Option Addr} (k : Qu w q h p) : w.cell? ⟨q, 6, none⟩ = some (.pointer p) := by
  obtain ⟨cs, h1, _, _, h4⟩ := k
  simp [World.cell?, h1, h4]
theorem Qu.f6 {w : World} {q h : Nat} {p : Option Addr} (k : Qu w q h p) : w.frozen? ⟨q, 6, none⟩ = false := by
  obtain ⟨cs, h1, _⟩ := k
  simp [World.frozen?, h1]
theorem Qu.setNext {w : World} {q h : Nat} {p : Option Addr} (k : Qu w q h p) (p' : Option Addr) : Qu (w.setCell ⟨q, 6, none⟩ (.pointer p')) q h p' := by
  obtain ⟨cs, h1, h2, h3, h4⟩ := k
  refine ⟨cs.setIfInBounds 6 (.pointer p'), heap_setCell_same w q 6 cs 59 _ h1, by simpa using h2, ?_, ?_⟩
  · rw [Array.getElem?_setIfInBounds, if_neg (by omega)]; exact h3
  · rw [Array.getElem?_setIfInBounds, if_pos rfl, if_pos (by omega)]

theorem Links.of_blocks {w w' : World} : ∀ {l : List Nd}, Links w l → (∀ x ∈ l, w'.heap[x.1]? = w.heap[x.1]?) → Links w' l
  | [], _, _ => trivial
  | x :: r, h, e => ⟨h.1.of_block (e x (by simp)), Links.of_blocks h.2 (fun y hy => e y (by simp [hy]))⟩
theorem Links.lt {w : World} : ∀ {l : List Nd}, Links w l → ∀ x ∈ l, x.1 < w.heap.size
  | x :: r, h, y, hy => by
    rcases List.mem_cons.1 hy with rfl | hy
    · exact h.1.lt
    · exact Links.lt h.2 y hy
/-- A queue's block is no block of another type. -/
theorem Links.type {w : World} : ∀ {l : List Nd}, Links w l → ∀ {b : Nat} {c : Array Value} {t : TypeId}, w.heap[b]? = some (.cells c t (0, 0)) → t ≠ 59 → ∀ x ∈ l, x.1 ≠ b
  | x :: r, h, b, c, t, hb, ht, y, hy => by
    rcases List.mem_cons.1 hy with rfl | hy
    · obtain ⟨cs, h1, _⟩ := h.1
      intro e
      rw [e, hb] at h1
      simp at h1
      exact ht h1.2
    · exact Links.type h.2 hb ht y hy

/-! ### The table -/
/-- The table's own block: its chains, its length. -/
def TabAt (w : World) (tb : Nat) (v : Value) (len : Nat) : Prop := w.heap[tb]? = some (.cells #[v, .int .i64 len, .slice none 0 0] 43 (0, 0))
theorem TabAt.c0 {w : World} {tb : Nat} {v : Value} {len : Nat} (h : TabAt w tb v len) : w.cell? ⟨tb, 0, none⟩ = some v := by unfold TabAt at h; simp [World.cell?, h]
theorem TabAt.c1 {w : World} {tb : Nat} {v : Value} {len : Nat} (h : TabAt w tb v len) : w.cell? ⟨tb, 1, none⟩ = some (.int .i64 len) := by unfold TabAt at h; simp [World.cell?, h]
theorem TabAt.c2 {w : World} {tb : Nat} {v : Value} {len : Nat} (h : TabAt w tb v len) : w.cell? ⟨tb, 2, none⟩ = some (.slice none 0 0) := by unfold TabAt at h; simp [World.cell?, h]
theorem TabAt.fr {w : World} {tb : Nat} {v : Value} {len : Nat} (h : TabAt w tb v len) (i : Nat) : w.frozen? ⟨tb, i, none⟩ = false := by unfold TabAt at h; simp [World.frozen?, h]
theorem TabAt.of_block {w w' : World} {tb : Nat} {v : Value} {len : Nat} (h : TabAt w tb v len) (e : w'.heap[tb]? = w.heap[tb]?) : TabAt w' tb v len := e.trans h
theorem TabAt.lt {w : World} {tb : Nat} {v : Value} {len : Nat} (h : TabAt w tb v len) : tb < w.heap.size := lt_of_block h
theorem TabAt.put0 {w : World} {tb : Nat} {v : Value} {len : Nat} (h : TabAt w tb v len) (v' : Value) : TabAt (w.setCell ⟨tb, 0, none⟩ v') tb v' len := by
  unfold TabAt
  rw [heap_setCell_same w tb 0 _ 43 _ h]
  simp
theorem TabAt.put1 {w : World} {tb : Nat} {v : Value} {len : Nat} (h : TabAt w tb v len) (len' : Nat) {x : Int} (hx : x = len') : TabAt (w.setCell ⟨tb, 1, none⟩ (.int .i64 x)) tb v len' := by
  subst hx
  unfold TabAt
  rw [heap_setCell_same w tb 1 _ 43 _ h]
  simp

/-- The chain that a hash picks among nc. -/
def pk (nc h : Nat) : Nat := h &&& (nc - 1)
theorem pk_lt {nc h : Nat} (h0 : 0 < nc) : pk nc h < nc := by
  have : h &&& (nc - 1) ≤ nc - 1 := Nat.and_le_right
  unfold pk
  omega
theorem pk_bits {nc h : Nat} (h0 : 0 < nc) (hn : nc ≤ 1048576) (hh : h < 18446744073709551616) : bits .and .u64 (h : Int) ((nc : Int) - 1) = ((pk nc h : Nat) : Int) := by
  rw [show (nc : Int) - 1 = ((nc - 1 : Nat) : Int) by omega]
  exact u64_and_nat h (nc - 1) hh (by omega)

/-! ### The small functions -/
theorem newTable_any (w : World) :
    Calls Try.prog 6 #[] w fun e w' => e = .returned (.pointer (some ⟨w.heap.size, 0, none⟩)) ∧ w' = w.alloc (.cells #[.slice none 0 0, .int .i64 0, .slice none 0 0] 43) := by
  go_enter Try.func6, Try.ntmps6
  go_wp2
  go_ret
  exact ⟨rfl, rfl⟩

theorem chains_any (tb len : Nat) (a : Option Addr) (n c : Nat) (w : World) (h : TabAt w tb (.slice a n c) len) :
    Calls Try.prog 9 #[.pointer (some ⟨tb, 0, none⟩)] w fun e w' => e = .returned (.int .i64 n) ∧ w' = w := by
  have c0 := h.c0
  clear h
  go_enter Try.func9, Try.ntmps9
  go_wp2
  go_ret
  exact ⟨rfl, rfl⟩

theorem len_any (tb len : Nat) (v : Value) (w : World) (h : TabAt w tb v len) :
    Calls Try.prog 10 #[.pointer (some ⟨tb, 0, none⟩)] w fun e w' => e = .returned (.int .i64 len) ∧ w' = w := by
  have c1 := h.c1
  clear h
  go_enter Try.func10, Try.ntmps10
  go_wp2
  go_ret
  exact ⟨rfl, rfl⟩

theorem head_any (tb len C n c k : Nat) (p : Option Addr) (w : World) (h : TabAt w tb (.slice (some ⟨C, 0, none⟩) n c) len) (hk : k < n) (hc : w.cell? ⟨C, k, none⟩ = some (.pointer p)) :
    Calls Try.prog 14 #[.pointer (some ⟨tb, 0, none⟩), .int .i64 k] w fun e w' => e = .returned (.pointer p) ∧ w' = w := by
  have c0 := h.c0
  have hk' : (k : Int) < (n : Int) := by omega
  clear h
  go_enter Try.func14, Try.ntmps14
  go_wp2
  go_ret
  exact ⟨rfl, rfl⟩

theorem next_any (q h : Nat) (p : Option Addr) (w : World) (hq : Qu w q h p) :
    Calls Try.prog 15 #[.pointer (some ⟨q, 0, none⟩)] w fun e w' => e = .returned (.pointer p) ∧ w' = w := by
  have c6 := hq.c6
  clear hq
  go_enter Try.func15, Try.ntmps15
  go_wp2
  go_ret
  exact ⟨rfl, rfl⟩

theorem hash_any (q h : Nat) (p : Option Addr) (w : World) (hq : Qu w q h p) :
    Calls Try.prog 16 #[.pointer (some ⟨q, 0, none⟩)] w fun e w' => e = .returned (.int .u64 h) ∧ w' = w := by
  have c4 := hq.c4
  clear hq
  go_enter Try.func16, Try.ntmps16
  go_wp2
  go_ret
  exact ⟨rfl, rfl⟩

/-- (*queueTable).chain: the place of the chain's head. -/
theorem chain_any (tb len C n c h : Nat) (w : World) (hT : TabAt w tb (.slice (some ⟨C, 0, none⟩) n c) len) (h0 : 0 < n) (hn : n ≤ 1048576) (hh : h < 18446744073709551616) :
    Calls Try.prog 19 #[.pointer (some ⟨tb, 0, none⟩), .int .u64 h] w fun e w' => e = .returned (.pointer (some ⟨C, pk n h, none⟩)) ∧ ∃ k, w' = w.drewN k := by
  have c0 := hT.c0
  have hb := pk_bits h0 hn hh
  have hp := pk_lt (h := h) h0
  generalize pk n h = p at *
  have hp' : (p : Int) < (n : Int) := by omega
  have h1 : (1 : Int) ≤ (n : Int) := by omega
  clear hT hh
  go_enter Try.func19, Try.ntmps19
  go_wp2
  go_quiet (fail)
  go_wp2
  go_ret
  exact ⟨rfl, _, rfl⟩

end Go.Proofs.Qxb6615967a
