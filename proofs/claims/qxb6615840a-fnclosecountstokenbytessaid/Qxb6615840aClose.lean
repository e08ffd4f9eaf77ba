import Derived.Test.Qxb6615840aShares
namespace Go.Proofs.Qxb6615840a
open Go.RowKit

theorem hide {p : Prop} (h : p) : Hid p := h

/-! ### The plain law -/
/-- How many of the first k bytes are no white space. -/
def cnt (zs : List Int) (k : Nat) : Nat := ((zs.take k).filter (fun c => !isSp c)).length

theorem cnt_zero (zs : List Int) : cnt zs 0 = 0 := by simp [cnt]
theorem cnt_succ (zs : List Int) (k : Nat) (h : k < zs.length) : cnt zs (k + 1) = cnt zs k + if isSp (zs.getD k 0) = true then 0 else 1 := by
  unfold cnt
  rw [List.take_succ_eq_append_getElem h, List.filter_append, List.length_append]
  have e : zs.getD k 0 = zs[k] := by simp [List.getD, h]
  rw [e]
  by_cases hs : isSp zs[k] = true
  · simp [hs]
  · simp [hs]
theorem cnt_sp (zs : List Int) (k : Nat) (h : k < zs.length) (hs : isSp (zs.getD k 0) = true) : cnt zs (k + 1) = cnt zs k := by rw [cnt_succ zs k h, if_pos hs]; rfl
theorem cnt_no (zs : List Int) (k : Nat) (h : k < zs.length) (hs : isSp (zs.getD k 0) = false) : cnt zs (k + 1) = cnt zs k + 1 := by rw [cnt_succ zs k h, if_neg (by rw [hs]; decide)]
theorem cnt_le (zs : List Int) (k : Nat) : cnt zs k ≤ k := by
  unfold cnt
  exact Nat.le_trans (List.length_filter_le _ _) (List.length_take_le _ _)
theorem cnt_run (zs : List Int) (p d : Nat) (hl : p + d ≤ zs.length) (h : ∀ j, p ≤ j → j < p + d → isSp (zs.getD j 0) = true) : cnt zs (p + d) = cnt zs p := by
  induction d with
  | zero => rfl
  | succ d ih =>
    rw [← Nat.add_assoc, cnt_sp zs (p + d) (by omega) (h (p + d) (by omega) (by omega))]
    exact ih (by omega) (fun j h1 h2 => h j h1 (by omega))
theorem cnt_skip (zs : List Int) (p q : Nat) (hq : p ≤ q) (hl : q ≤ zs.length) (h : ∀ j, p ≤ j → j < q → isSp (zs.getD j 0) = true) : cnt zs q = cnt zs p := by
  have := cnt_run zs p (q - p) (by omega) (fun j h1 h2 => h j h1 (by omega))
  rwa [show p + (q - p) = q by omega] at this

/-- The first NUL byte, or the end. -/
structure FirstNul (zs : List Int) (m : Nat) : Prop where
  le : m ≤ zs.length
  no : ∀ j, j < m → zs.getD j 0 ≠ 0
  here : zs.getD m 0 = 0

theorem FirstNul.notSp {zs : List Int} {m : Nat} (h : FirstNul zs m) : isSp (zs.getD m 0) = false := by rw [h.here]; decide
/-- Where Next stands, from a place no later than the first NUL byte. -/
theorem FirstNul.next_le {zs : List Int} {m p q : Nat} (h : FirstNul zs m) (hp : p ≤ m) (hsp : ∀ j, p ≤ j → j < q → isSp (zs.getD j 0) = true) : q ≤ m := by
  by_cases hq : q ≤ m
  · exact hq
  · have := hsp m hp (by omega)
    rw [h.notSp] at this
    exact absurd this (by decide)
theorem FirstNul.at_zero {zs : List Int} {m q : Nat} (h : FirstNul zs m) (hq : q ≤ m) (hz : zs.getD q 0 = 0) : q = m := by
  by_cases e : q < m
  · exact absurd hz (h.no q e)
  · omega

/-! ### Next where it stands already; skipByte; Close -/
theorem next_stay (R G n p : Nat) (zs : List Int) (w : World) (hn : n ≤ 1048576) (hz : zs.length = n) (hp : p ≤ n) (hno : isSp (zs.getD p 0) = false) (hS : Rd R G n p zs w) :
    Calls Try.prog 11 #[.pointer (some ⟨R, 0, none⟩)] w fun e w' => e = .returned (.int .u8 (zs.getD p 0)) ∧ Rd R G n p zs w' ∧ Only R w w' := by
  refine (next_any R G n p zs w hn hz hp hS).mono ?_
  rintro e w' ⟨q, hpq, hqn, hsp, _, rfl, hr, ho⟩
  obtain rfl : q = p := by
    by_cases e : q = p
    · exact e
    · have := hsp p (Nat.le_refl _) (by omega)
      rw [hno] at this
      exact absurd this (by decide)
  exact ⟨rfl, hr, ho⟩

theorem skip_at (R G n p : Nat) (zs : List Int) (w : World) (hn : n ≤ 1048576) (hz : zs.length = n) (hp : p < n) (hno : isSp (zs.getD p 0) = false) (hnz : zs.getD p 0 ≠ 0) (hS : Rd R G n p zs w) :
    Calls Try.prog 23 #[.pointer (some ⟨R, 0, none⟩)] w fun e w' => e = .returned (.tuple #[]) ∧ Rd R G n (p + 1) zs w' ∧ Only R w w' := by
  have hnx := next_stay R G n p zs w hn hz (by omega) hno hS
  obtain ⟨z, hz'⟩ : ∃ z, zs.getD p 0 = z := ⟨_, rfl⟩
  rw [hz'] at hnx hnz
  have hne : (z != 0) = true := by rw [bne_iff_ne]; exact hnz
  clear hz' hno hz hnz hS
  have HN := hide hnx
  clear hnx
  go_enter Try.func23, Try.ntmps23
  go_wp2_with fail
  refine HN.out.mono ?_
  rintro e w1 ⟨rfl, hr, ho⟩
  have c1 := hr.c1
  have f1 := hr.f1
  go_wp2
  go_end0
  exact ⟨rfl, hr.put _ (by omega), ho.setCell _ _⟩

theorem close_at (R G n p : Nat) (zs : List Int) (w : World) (hn : n ≤ 1048576) (hz : zs.length = n) (hp : p < n) (hno : isSp (zs.getD p 0) = false) (hnz : zs.getD p 0 ≠ 0) (hS : Rd R G n p zs w) :
    Calls Try.prog 15 #[.pointer (some ⟨R, 0, none⟩)] w fun e w' => e = .returned (.tuple #[]) ∧ Rd R G n (p + 1) zs w' ∧ Only R w w' := by
  have HN := hide (skip_at R G n p zs w hn hz hp hno hnz hS)
  clear hno hz hnz hS
  go_enter Try.func15, Try.ntmps15
  go_wp2_with fail
  refine HN.out.mono ?_
  rintro e w1 ⟨rfl, hr, ho⟩
  go_wp2
  go_end0
  exact ⟨rfl, hr, ho⟩

/-! ### The law -/
theorem closes_big (a : Option Addr) (n c : Nat) (w : World) (h : 1048576 < n) :
    Calls Try.prog 4 #[.slice a n c] w fun e w' => e = .returned (.bool true) ∧ Below w.heap.size w w' := by
  go_enter Try.func4, Try.ntmps4
  go_wp2_with (go_at_call 13; refine (bytes_big4 _ _ _ _ h).mono ?_; rintro e w' ⟨rfl, rfl⟩)
  go_ret
  exact ⟨rfl, Below.refl _ _⟩

theorem closes_nil (c : Nat) (w : World) :
    Calls Try.prog 4 #[.slice none 0 c] w fun e w' => e = .returned (.bool true) ∧ Below w.heap.size w w' := by
  go_enter Try.func4, Try.ntmps4
  go_wp2_with (first
    | (go_at_call 13; refine (bytes_any4 _ _ _ _ (by omega)).mono ?_; rintro e w' ⟨rfl, rfl⟩)
    | (go_at_call 8; refine (copy_nil _ _ _).mono ?_; rintro e w' ⟨rfl, rfl⟩)
    | (go_at_call 9; refine (newReader_any _ _ _ _).mono ?_; rintro e w' ⟨rfl, rfl⟩))
  refine wp_loop_rounds 1 ?_
  rw [rounds_succ]
  go_wp2
  refine wp_loop_rounds 1 ?_
  rw [rounds_succ]
  go_wp2
  refine wp_loop_rounds 1 ?_
  rw [rounds_succ]
  go_wp2_with (first
    | (go_at_call 11; refine (next_empty _ none 0 _ (by simp) (by simp)).mono ?_; rintro e w' ⟨rfl, k, rfl⟩)
    | (go_at_call 12; refine (pos_any _ 0 _ (by simp)).mono ?_; rintro e w' ⟨rfl, rfl⟩))
  go_ret
  exact ⟨rfl, below_drewN ((Below.refl _ _).alloc (Nat.le_refl _) _) _⟩

theorem closes_empty (x : Addr) (c : Nat) (w : World) :
    Calls Try.prog 4 #[.slice (some x) 0 c] w fun e w' => e = .returned (.bool true) ∧ Below w.heap.size w w' := by
  go_enter Try.func4, Try.ntmps4
  go_wp2_with (first
    | (go_at_call 13; refine (bytes_any4 _ _ _ _ (by omega)).mono ?_; rintro e w' ⟨rfl, rfl⟩)
    | (go_at_call 8; refine (copy_empty _ _ _).mono ?_; rintro e w' ⟨rfl, rfl⟩)
    | (go_at_call 9; refine (newReader_any _ _ _ _).mono ?_; rintro e w' ⟨rfl, rfl⟩))
  refine wp_loop_rounds 1 ?_
  rw [rounds_succ]
  go_wp2
  refine wp_loop_rounds 1 ?_
  rw [rounds_succ]
  go_wp2
  refine wp_loop_rounds 1 ?_
  rw [rounds_succ]
  go_wp2_with (first
    | (go_at_call 11; refine (next_empty _ (some _) 0 _ (by simp; rfl) (by simp)).mono ?_; rintro e w' ⟨rfl, k, rfl⟩)
    | (go_at_call 12; refine (pos_any _ 0 _ (by simp)).mono ?_; rintro e w' ⟨rfl, rfl⟩))
  go_ret
  exact ⟨rfl, below_drewN (((Below.refl _ _).alloc (Nat.le_refl _) _).alloc (by simp) _) _⟩

end Go.Proofs.Qxb6615840a
