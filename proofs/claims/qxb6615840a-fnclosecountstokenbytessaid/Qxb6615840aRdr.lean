import Derived.Test.Qxb6615840aProg
import Derived.WalkKit
import Derived.WalkSpells
import Derived.WalkLawsBesides
import Derived.Deep.OwnRows
import Derived.Deep.LoopGhost
import Derived.Deep.QuietTactic
import Derived.BigQuiet
namespace Go.Proofs.Qxb6615840a
open Go.RowKit

/-- The four bytes that JSON counts as white space. -/
def isSp (c : Int) : Bool := c == 32 || c == 9 || c == 10 || c == 13

/-- Of the two worlds only block R may part. -/
structure Only (R : Nat) (w w' : World) : Prop where
  os : w'.os = w.os
  tape : w'.tape = w.tape
  output : w'.output = w.output
  size : w'.heap.size = w.heap.size
  block : ∀ k, k ≠ R → w'.heap[k]? = w.heap[k]?

theorem Only.refl (R : Nat) (w : World) : Only R w w := ⟨rfl, rfl, rfl, rfl, fun _ _ => rfl⟩
theorem Only.trans {R : Nat} {a b c : World} (h : Only R a b) (k : Only R b c) : Only R a c :=
  ⟨k.os.trans h.os, k.tape.trans h.tape, k.output.trans h.output, k.size.trans h.size, fun i hi => (k.block i hi).trans (h.block i hi)⟩
theorem Only.drewN {R : Nat} {a b : World} (h : Only R a b) (n : Nat) : Only R a (b.drewN n) := by
  refine h.trans ⟨?_, ?_, ?_, ?_, ?_⟩ <;> simp [World.drewN]
theorem Only.setCell {R : Nat} {a b : World} (h : Only R a b) (o : Nat) (v : Value) : Only R a (b.setCell ⟨R, o, none⟩ v) :=
  h.trans ⟨rfl, rfl, rfl, by simp [World.setCell], fun k hk => Deep.blk_setCell_other _ _ _ _ hk⟩
theorem Only.below {R : Nat} {a b : World} (h : Only R a b) {B : Nat} (hB : B ≤ R) : Below B a b :=
  ⟨h.os, h.tape, h.output, by rw [h.size]; exact Nat.le_refl _, fun k hk => h.block k (by omega)⟩

/-- A reader in block R over the n bytes of block G, its place p. -/
structure Rd (R G n p : Nat) (zs : List Int) (w : World) : Prop where
  rd : w.heap[R]? = some (.cells #[.slice (some ⟨G, 0, none⟩) n n, .int .i64 p] 42 (0, 0))
  txt : w.rowIs G 5 n (fun j => .int .u8 (zs.getD j 0))

theorem Rd.ne {R G n p : Nat} {zs : List Int} {w : World} (h : Rd R G n p zs w) : G ≠ R := by
  intro e
  obtain ⟨c, hb, _, _⟩ := h.txt
  rw [e, h.rd] at hb
  simp at hb
theorem Rd.c0 {R G n p : Nat} {zs : List Int} {w : World} (h : Rd R G n p zs w) : w.cell? ⟨R, 0, none⟩ = some (.slice (some ⟨G, 0, none⟩) n n) := by simp [World.cell?, h.rd]
theorem Rd.c1 {R G n p : Nat} {zs : List Int} {w : World} (h : Rd R G n p zs w) : w.cell? ⟨R, 1, none⟩ = some (.int .i64 p) := by simp [World.cell?, h.rd]
theorem Rd.f1 {R G n p : Nat} {zs : List Int} {w : World} (h : Rd R G n p zs w) : w.frozen? ⟨R, 1, none⟩ = false := by simp [World.frozen?, h.rd]
theorem Rd.ct {R G n p : Nat} {zs : List Int} {w : World} (h : Rd R G n p zs w) {q : Nat} (hq : q < n) : w.cell? ⟨G, q, none⟩ = some (.int .u8 (zs.getD q 0)) := h.txt.cell hq
theorem Rd.drewN {R G n p : Nat} {zs : List Int} {w : World} (h : Rd R G n p zs w) (k : Nat) : Rd R G n p zs (w.drewN k) :=
  ⟨by simpa [World.drewN] using h.rd, h.txt.of_block (by simp [World.drewN])⟩
theorem Rd.put {R G n p : Nat} {zs : List Int} {w : World} (h : Rd R G n p zs w) (q : Nat) {x : Int} (hx : x = q) : Rd R G n q zs (w.setCell ⟨R, 1, none⟩ (.int .i64 x)) := by
  subst hx
  refine ⟨?_, h.txt.setOther h.ne _⟩
  rw [heap_setCell_same w R 1 _ 42 _ h.rd]
  simp

theorem sp_snoc {zs : List Int} {p q : Nat} (h : ∀ j, p ≤ j → j < q → isSp (zs.getD j 0) = true) {c : Int} (hc : c = zs.getD q 0) (hs : isSp c = true) : ∀ j, p ≤ j → j < q + 1 → isSp (zs.getD j 0) = true := by
  intro j h1 h2
  by_cases e : j = q
  · subst e; rw [← hc]; exact hs
  · exact h j h1 (by omega)
theorem sp32 {c : Int} (h : (c == 32) = true) : isSp c = true := by simp [isSp, h]
theorem sp9 {c : Int} (h : (c == 9) = true) : isSp c = true := by simp [isSp, h]
theorem sp10 {c : Int} (h : (c == 10) = true) : isSp c = true := by simp [isSp, h]
theorem sp13 {c : Int} (h : (c == 13) = true) : isSp c = true := by simp [isSp, h]
theorem spNo {c : Int} (h1 : (c == 32) = false) (h2 : (c == 9) = false) (h3 : (c == 10) = false) (h4 : (c == 13) = false) : isSp c = false := by simp only [isSp, h1, h2, h3, h4]; rfl

/-- (*Reader).Next: past the white space; the byte there, 0 at the end. -/
theorem next_any (R G n p : Nat) (zs : List Int) (w : World) (hn : n ≤ 1048576) (hz : zs.length = n) (hp : p ≤ n) (hS : Rd R G n p zs w) :
    Calls Try.prog 11 #[.pointer (some ⟨R, 0, none⟩)] w fun e w' => ∃ q : Nat, p ≤ q ∧ q ≤ n ∧ (∀ j, p ≤ j → j < q → isSp (zs.getD j 0) = true) ∧ (q < n → isSp (zs.getD q 0) = false) ∧
      e = .returned (.int .u8 (zs.getD q 0)) ∧ Rd R G n q zs w' ∧ Only R w w' := by
  go_enter Try.func11, Try.ntmps11
  go_wp2
  go_loopg [] (n - p) (fun k wr => ∃ q : Nat, k = n - q ∧ p ≤ q ∧ q ≤ n ∧ (∀ j, p ≤ j → j < q → isSp (zs.getD j 0) = true) ∧ Rd R G n q zs wr ∧ Only R w wr)
  case atStart => exact ⟨p, rfl, Nat.le_refl _, hp, fun j h1 h2 => absurd h1 (by omega), hS, Only.refl _ _⟩
  case round =>
    obtain ⟨q, hk, hpq, hqn, hsp, hr, ho⟩ := hrel
    have c0 := hr.c0
    have c1 := hr.c1
    have f1 := hr.f1
    have HS : Hid (∀ j, p ≤ j → j < q → isSp (zs.getD j 0) = true) := hsp
    have HK : Hid (gk = n - q) := hk
    have HZ : Hid (zs.length = n) := hz
    clear hsp hk hz
    by_cases hlt : q < n
    · obtain ⟨c, hc⟩ : ∃ c, c = zs.getD q 0 := ⟨_, rfl⟩
      have ct := hr.ct hlt
      rw [← hc] at ct
      have HC : Hid (c = zs.getD q 0) := hc
      clear hc
      go_wp2
      go_quiet (fail)
      go_wp2
      go_quiet (fail)
      go_wp2
      rotate_left 4
      · go_ret
        exact ⟨q, hpq, hqn, HS.out, fun _ => by rw [← HC.out]; exact spNo ‹_› ‹_› ‹_› ‹_›, by rw [← HC.out]; rfl, hr.drewN _, ho.drewN _⟩
      all_goals
        go_roundg (n - (q + 1))
        case measure => rw [HK.out]; omega
        case rel => exact ⟨q + 1, rfl, by omega, by omega, sp_snoc HS.out HC.out (by first | exact sp32 ‹_› | exact sp9 ‹_› | exact sp10 ‹_› | exact sp13 ‹_›), (hr.drewN _).put _ (by omega), (ho.drewN _).setCell _ _⟩
    · have hnlt : ¬ (q : Int) < (n : Int) := by omega
      go_wp2
      go_quiet (fail)
      go_wp2
      go_ret
      obtain rfl : q = n := by omega
      exact ⟨q, hpq, hqn, HS.out, fun h => absurd h (by omega), by simp [List.getD, List.getElem?_eq_none (Nat.le_of_eq HZ.out)], hr.drewN _, ho.drewN _⟩

/-! ### The small functions -/
theorem newReader_any (a : Option Addr) (n c : Nat) (w : World) :
    Calls Try.prog 9 #[.slice a n c] w fun e w' => e = .returned (.pointer (some ⟨w.heap.size, 0, none⟩)) ∧ w' = w.alloc (.cells #[.slice a n c, .int .i64 0] 42) := by
  go_enter Try.func9, Try.ntmps9
  go_wp2
  go_ret
  exact ⟨rfl, rfl⟩

theorem text_any (R : Nat) (a : Option Addr) (n c : Nat) (w : World) (h0 : w.cell? ⟨R, 0, none⟩ = some (.slice a n c)) :
    Calls Try.prog 10 #[.pointer (some ⟨R, 0, none⟩)] w fun e w' => e = .returned (.slice a n c) ∧ w' = w := by
  go_enter Try.func10, Try.ntmps10
  go_wp2
  go_ret
  exact ⟨rfl, rfl⟩

theorem pos_any (R : Nat) (p : Int) (w : World) (h0 : w.cell? ⟨R, 1, none⟩ = some (.int .i64 p)) :
    Calls Try.prog 12 #[.pointer (some ⟨R, 0, none⟩)] w fun e w' => e = .returned (.int .i64 p) ∧ w' = w := by
  go_enter Try.func12, Try.ntmps12
  go_wp2
  go_ret
  exact ⟨rfl, rfl⟩

theorem isSpace_any (c : Int) (w : World) :
    Calls Try.prog 14 #[.int .u8 c] w fun e w' => e = .returned (.bool (isSp c)) ∧ w' = w := by
  unfold isSp
  by_cases h1 : (c == 32) = true
  · go_enter Try.func14, Try.ntmps14
    go_wp2
    go_ret
    exact ⟨by simp [h1], rfl⟩
  have h1' : (c == 32) = false := by simpa using h1
  clear h1
  by_cases h2 : (c == 9) = true
  · go_enter Try.func14, Try.ntmps14
    go_wp2
    go_ret
    exact ⟨by simp [h2], rfl⟩
  have h2' : (c == 9) = false := by simpa using h2
  clear h2
  by_cases h3 : (c == 10) = true
  · go_enter Try.func14, Try.ntmps14
    go_wp2
    go_ret
    exact ⟨by simp [h3], rfl⟩
  have h3' : (c == 10) = false := by simpa using h3
  clear h3
  go_enter Try.func14, Try.ntmps14
  go_wp2
  go_ret
  exact ⟨by simp [h1', h2', h3'], rfl⟩

theorem bytes_any3 (a : Option Addr) (n c : Nat) (w : World) (h : n ≤ 1048576) :
    Calls Try.prog 7 #[.slice a n c] w fun e w' => e = .returned (.bool true) ∧ w' = w := by
  go_enter Try.func7, Try.ntmps7
  go_wp2
  go_ret
  exact ⟨rfl, rfl⟩
theorem bytes_big3 (a : Option Addr) (n c : Nat) (w : World) (h : 1048576 < n) :
    Calls Try.prog 7 #[.slice a n c] w fun e w' => e = .returned (.bool false) ∧ w' = w := by
  go_enter Try.func7, Try.ntmps7
  go_wp2
  go_ret
  exact ⟨rfl, rfl⟩
theorem bytes_any4 (a : Option Addr) (n c : Nat) (w : World) (h : n ≤ 1048576) :
    Calls Try.prog 13 #[.slice a n c] w fun e w' => e = .returned (.bool true) ∧ w' = w := by
  go_enter Try.func13, Try.ntmps13
  go_wp2
  go_ret
  exact ⟨rfl, rfl⟩
theorem bytes_big4 (a : Option Addr) (n c : Nat) (w : World) (h : 1048576 < n) :
    Calls Try.prog 13 #[.slice a n c] w fun e w' => e = .returned (.bool false) ∧ w' = w := by
  go_enter Try.func13, Try.ntmps13
  go_wp2
  go_ret
  exact ⟨rfl, rfl⟩

end Go.Proofs.Qxb6615840a
