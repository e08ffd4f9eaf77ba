import Derived.Test.Qxb6615840aCopy
namespace Go.Proofs.Qxb6615840a
open Go.RowKit

/-- (*Reader).Next over an empty text: 0. -/
theorem next_empty (R : Nat) (a : Option Addr) (c : Nat) (w : World) (h0 : w.cell? ⟨R, 0, none⟩ = some (.slice a 0 c)) (h1 : w.cell? ⟨R, 1, none⟩ = some (.int .i64 0)) :
    Calls Try.prog 11 #[.pointer (some ⟨R, 0, none⟩)] w fun e w' => e = .returned (.int .u8 0) ∧ ∃ k, w' = w.drewN k := by
  go_enter Try.func11, Try.ntmps11
  go_wp2
  refine wp_loop_rounds 1 ?_
  rw [rounds_succ]
  go_wp2
  go_quiet (fail)
  go_wp2
  go_ret
  exact ⟨rfl, _, rfl⟩

theorem shares_big (a : Option Addr) (n c : Nat) (w : World) (h : 1048576 < n) :
    Calls Try.prog 3 #[.slice a n c] w fun e w' => e = .returned (.bool true) ∧ Below w.heap.size w w' := by
  go_enter Try.func3, Try.ntmps3
  go_wp2_with (go_at_call 7; refine (bytes_big3 _ _ _ _ h).mono ?_; rintro e w' ⟨rfl, rfl⟩)
  go_ret
  exact ⟨rfl, Below.refl _ _⟩

theorem shares_nil (n c : Nat) (w : World) (hn : n = 0) :
    Calls Try.prog 3 #[.slice none n c] w fun e w' => e = .returned (.bool true) ∧ Below w.heap.size w w' := by
  subst hn
  go_enter Try.func3, Try.ntmps3
  go_wp2_with (first
    | (go_at_call 7; refine (bytes_any3 _ _ _ _ (by omega)).mono ?_; rintro e w' ⟨rfl, rfl⟩)
    | (go_at_call 8; refine (copy_nil _ _ _).mono ?_; rintro e w' ⟨rfl, rfl⟩)
    | (go_at_call 9; refine (newReader_any _ _ _ _).mono ?_; rintro e w' ⟨rfl, rfl⟩)
    | (go_at_call 10; refine (text_any _ none 0 0 _ (by simp)).mono ?_; rintro e w' ⟨rfl, rfl⟩)
    | (go_at_call 11; refine (next_empty _ none 0 _ (by simp) (by simp)).mono ?_; rintro e w' ⟨rfl, k, rfl⟩)
    | (go_at_call 12; refine (pos_any _ 0 _ (by simp)).mono ?_; rintro e w' ⟨rfl, rfl⟩))
  go_ret
  exact ⟨rfl, below_drewN ((Below.refl _ _).alloc (Nat.le_refl _) _) _⟩

theorem shares_empty (x : Addr) (c : Nat) (w : World) :
    Calls Try.prog 3 #[.slice (some x) 0 c] w fun e w' => e = .returned (.bool true) ∧ Below w.heap.size w w' := by
  go_enter Try.func3, Try.ntmps3
  go_wp2_with (first
    | (go_at_call 7; refine (bytes_any3 _ _ _ _ (by omega)).mono ?_; rintro e w' ⟨rfl, rfl⟩)
    | (go_at_call 8; refine (copy_empty _ _ _).mono ?_; rintro e w' ⟨rfl, rfl⟩)
    | (go_at_call 9; refine (newReader_any _ _ _ _).mono ?_; rintro e w' ⟨rfl, rfl⟩)
    | (go_at_call 10; refine (text_any _ (some _) 0 0 _ (by simp; rfl)).mono ?_; rintro e w' ⟨rfl, rfl⟩)
    | (go_at_call 11; refine (next_empty _ (some _) 0 _ (by simp; rfl) (by simp)).mono ?_; rintro e w' ⟨rfl, k, rfl⟩)
    | (go_at_call 12; refine (pos_any _ 0 _ (by simp)).mono ?_; rintro e w' ⟨rfl, rfl⟩))
  go_ret
  exact ⟨rfl, below_drewN (((Below.refl _ _).alloc (Nat.le_refl _) _).alloc (by simp) _) _⟩

/-- A new reader over a row. -/
theorem rd_new {G n : Nat} {zs : List Int} {w : World} (h : w.rowIs G 5 n (fun j => .int .u8 (zs.getD j 0))) : Rd w.heap.size G n 0 zs (w.alloc (.cells #[.slice (some ⟨G, 0, none⟩) n n, .int .i64 0] 42)) :=
  ⟨Deep.blk_alloc_new _ _, h.alloc _⟩

theorem shares_any (b off n c : Nat) (zs : List Int) (w : World) (hz : zs.length = n) (h0 : 0 < n) (hn : n ≤ 1048576) (hb : b < w.heap.size) (hc : ∀ j, j < n → w.cell? ⟨b, off + j, none⟩ = some (.int .u8 (zs.getD j 0))) :
    Calls Try.prog 3 #[.slice (some ⟨b, off, none⟩) n c] w fun e w' => e = .returned (.bool true) ∧ Below w.heap.size w w' := by
  have h0' : ((n : Int) == 0) = false := by rw [beq_eq_false_iff_ne]; omega
  go_enter Try.func3, Try.ntmps3
  go_wp2_with (go_at_call 7; refine (bytes_any3 _ _ _ _ (by omega)).mono ?_; rintro e w' ⟨rfl, rfl⟩)
  refine (copy_any b off n c zs _ hn hb hc).mono ?_
  rintro e w1 ⟨rfl, hsz, hrow, hbel⟩
  have HSZ : Hid (w1.heap.size = w'.heap.size + 1) := hsz
  have HZ : Hid (zs.length = n) := hz
  have hlt : w'.heap.size < w1.heap.size := by omega
  clear hsz hc hz
  have fo := hrow.frozen 0
  obtain ⟨z, co⟩ : ∃ z, w1.cell? ⟨w'.heap.size, 0, none⟩ = some (.int .u8 z) := ⟨_, hrow.cell h0⟩
  go_wp2_with (first
    | (go_at_call 9; refine (newReader_any _ _ _ _).mono ?_; rintro e w2 ⟨rfl, rfl⟩)
    | (go_at_call 10; refine (text_any _ (some _) n n _ (by simp; rfl)).mono ?_; rintro e w2 ⟨rfl, rfl⟩))
  have hset : (w1.setCell ⟨w'.heap.size, 0, none⟩ (.int .u8 120)).rowIs w'.heap.size 5 n (fun j => .int .u8 ((zs.set 0 120).getD j 0)) := by
    refine (hrow.set 0 _).congr (fun j hj => ?_)
    have := HZ.out
    by_cases e : j = 0
    · subst e; simp [List.getD, show 0 < zs.length by omega]
    · simp [List.getD, e, show ¬ 0 = j by omega]
  have hrd := rd_new hset
  rw [World.size_setCell] at hrd
  refine (next_any _ _ n 0 _ _ hn (by rw [List.length_set]; exact HZ.out) (Nat.zero_le _) hrd).mono ?_
  rintro e w3 ⟨q, _, hqn, hsp, _, rfl, hr3, ho3⟩
  have e0 : (zs.set 0 120).getD 0 0 = 120 := by have := HZ.out; simp [List.getD, show 0 < zs.length by omega]
  obtain rfl : q = 0 := by
    by_cases hq : q = 0
    · exact hq
    · have := hsp 0 (Nat.zero_le _) (by omega)
      rw [e0] at this
      exact absurd this (by decide)
  rw [e0]
  have hc1 := hr3.c1
  clear co fo e0 hset hrow hsp
  go_wp2_with (go_at_call 12; refine (pos_any _ 0 _ hc1).mono ?_; rintro e w4 ⟨rfl, rfl⟩)
  go_ret
  refine ⟨rfl, ?_⟩
  refine (((hbel.setCell (Nat.le_refl _) _).alloc ?_ _)).trans (ho3.below ?_)
  · simp; omega
  · omega
end Go.Proofs.Qxb6615840a
