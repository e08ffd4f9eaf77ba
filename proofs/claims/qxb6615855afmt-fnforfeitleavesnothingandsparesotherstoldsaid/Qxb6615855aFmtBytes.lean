/-
  The bounds on total length (zzBytes_..) of the laws over slices of strings; small facts that the three laws share.
-/
import Derived.Test.Qxb6615855aFmtForf
namespace Go.Proofs.Qxb6615855aFmt
open Go.RowKit

def AnyBool (_ : Bool) : Prop := True

theorem bytes7_any (bt : Bool) (st : Int) (a : Option Addr) (n c : Nat) (a' : Option Addr) (m c' b' off' : Nat) (S : Nat → ByteArray) (i : Int) (w : World) (hn : n ≤ maxLen) (hm : m ≤ maxLen) (hA : At w a' m b' off' (fun j => .string (S j))) (hS : ∀ j, j < m → (S j).size ≤ maxLen) :
    Calls Tryf.prog 7 #[.bool bt, .int .i64 st, .slice a n c, .slice a' m c', .int .i64 i] w (Says AnyBool w) := by
  have HS := hide hS
  clear hS
  unfold maxLen at hn hm HS
  by_cases h1 : 1048576 < n
  · go_enter Tryf.func7, Tryf.ntmps7
    go_wp2
    go_ret
    exact ⟨⟨false, rfl, trivial⟩, rfl⟩
  by_cases h2 : 1048576 < m
  · go_enter Tryf.func7, Tryf.ntmps7
    go_wp2
    go_ret
    exact ⟨⟨false, rfl, trivial⟩, rfl⟩
  by_cases h3 : 1048576 < n + m
  · go_enter Tryf.func7, Tryf.ntmps7
    go_wp2
    go_ret
    exact ⟨⟨false, rfl, trivial⟩, rfl⟩
  go_enter Tryf.func7, Tryf.ntmps7
  go_wp2
  go_loopg [11, 12] m (fun k z iv wr => w = wr ∧ ∃ q x : Nat, k = m - q ∧ q ≤ m ∧ iv = .int .i64 q ∧ z = .int .i64 x ∧ x ≤ 1048576)
  case atStart => exact ⟨rfl, 0, n + m, rfl, Nat.zero_le _, rfl, by go_num, by omega⟩
  case round =>
    obtain ⟨rfl, q, x, hk, hq, rfl, rfl, hx⟩ := hrel
    have HK := hide hk
    clear hk
    by_cases hlt : q < m
    · obtain rfl := hA.1 (by omega)
      have ct := hA.2 q hlt
      simp only [] at ct
      have hsz := HS.out q hlt
      clear hA HS
      generalize S q = s at *
      by_cases c1 : 1048576 < s.size
      · go_wp2
        go_ret
        exact ⟨⟨false, rfl, trivial⟩, rfl⟩
      by_cases c2 : 1048576 < x + s.size
      · go_wp2
        go_ret
        exact ⟨⟨false, rfl, trivial⟩, rfl⟩
      · go_wp2
        go_roundg (m - (q + 1))
        case measure => rw [HK.out]; omega
        case rel => exact ⟨rfl, q + 1, x + s.size, rfl, by omega, by go_num, by go_num, by omega⟩
    · clear hA
      go_wp2
      go_ret
      exact ⟨⟨true, rfl, trivial⟩, rfl⟩

theorem bytes17_any (bt : Bool) (st : Int) (a : Option Addr) (n c : Nat) (a' : Option Addr) (m c' b' off' : Nat) (S : Nat → ByteArray) (i : Int) (w : World) (hn : n ≤ maxLen) (hm : m ≤ maxLen) (hA : At w a' m b' off' (fun j => .string (S j))) (hS : ∀ j, j < m → (S j).size ≤ maxLen) :
    Calls Tryf.prog 17 #[.bool bt, .int .i64 st, .slice a n c, .slice a' m c', .int .i64 i] w (Says AnyBool w) := by
  have HS := hide hS
  clear hS
  unfold maxLen at hn hm HS
  by_cases h1 : 1048576 < n
  · go_enter Tryf.func17, Tryf.ntmps17
    go_wp2
    go_ret
    exact ⟨⟨false, rfl, trivial⟩, rfl⟩
  by_cases h2 : 1048576 < m
  · go_enter Tryf.func17, Tryf.ntmps17
    go_wp2
    go_ret
    exact ⟨⟨false, rfl, trivial⟩, rfl⟩
  by_cases h3 : 1048576 < n + m
  · go_enter Tryf.func17, Tryf.ntmps17
    go_wp2
    go_ret
    exact ⟨⟨false, rfl, trivial⟩, rfl⟩
  go_enter Tryf.func17, Tryf.ntmps17
  go_wp2
  go_loopg [11, 12] m (fun k z iv wr => w = wr ∧ ∃ q x : Nat, k = m - q ∧ q ≤ m ∧ iv = .int .i64 q ∧ z = .int .i64 x ∧ x ≤ 1048576)
  case atStart => exact ⟨rfl, 0, n + m, rfl, Nat.zero_le _, rfl, by go_num, by omega⟩
  case round =>
    obtain ⟨rfl, q, x, hk, hq, rfl, rfl, hx⟩ := hrel
    have HK := hide hk
    clear hk
    by_cases hlt : q < m
    · obtain rfl := hA.1 (by omega)
      have ct := hA.2 q hlt
      simp only [] at ct
      have hsz := HS.out q hlt
      clear hA HS
      generalize S q = s at *
      by_cases c1 : 1048576 < s.size
      · go_wp2
        go_ret
        exact ⟨⟨false, rfl, trivial⟩, rfl⟩
      by_cases c2 : 1048576 < x + s.size
      · go_wp2
        go_ret
        exact ⟨⟨false, rfl, trivial⟩, rfl⟩
      · go_wp2
        go_roundg (m - (q + 1))
        case measure => rw [HK.out]; omega
        case rel => exact ⟨rfl, q + 1, x + s.size, rfl, by omega, by go_num, by go_num, by omega⟩
    · clear hA
      go_wp2
      go_ret
      exact ⟨⟨true, rfl, trivial⟩, rfl⟩

theorem bytes19_any (bt : Bool) (st : Int) (a : Option Addr) (n c : Nat) (a' : Option Addr) (m c' b' off' : Nat) (S : Nat → ByteArray) (i j : Int) (w : World) (hn : n ≤ maxLen) (hm : m ≤ maxLen) (hA : At w a' m b' off' (fun j => .string (S j))) (hS : ∀ j, j < m → (S j).size ≤ maxLen) :
    Calls Tryf.prog 19 #[.bool bt, .int .i64 st, .slice a n c, .slice a' m c', .int .i64 i, .int .i64 j] w (Says AnyBool w) := by
  have HS := hide hS
  clear hS
  unfold maxLen at hn hm HS
  by_cases h1 : 1048576 < n
  · go_enter Tryf.func19, Tryf.ntmps19
    go_wp2
    go_ret
    exact ⟨⟨false, rfl, trivial⟩, rfl⟩
  by_cases h2 : 1048576 < m
  · go_enter Tryf.func19, Tryf.ntmps19
    go_wp2
    go_ret
    exact ⟨⟨false, rfl, trivial⟩, rfl⟩
  by_cases h3 : 1048576 < n + m
  · go_enter Tryf.func19, Tryf.ntmps19
    go_wp2
    go_ret
    exact ⟨⟨false, rfl, trivial⟩, rfl⟩
  go_enter Tryf.func19, Tryf.ntmps19
  go_wp2
  go_loopg [13, 14] m (fun k z iv wr => w = wr ∧ ∃ q x : Nat, k = m - q ∧ q ≤ m ∧ iv = .int .i64 q ∧ z = .int .i64 x ∧ x ≤ 1048576)
  case atStart => exact ⟨rfl, 0, n + m, rfl, Nat.zero_le _, rfl, by go_num, by omega⟩
  case round =>
    obtain ⟨rfl, q, x, hk, hq, rfl, rfl, hx⟩ := hrel
    have HK := hide hk
    clear hk
    by_cases hlt : q < m
    · obtain rfl := hA.1 (by omega)
      have ct := hA.2 q hlt
      simp only [] at ct
      have hsz := HS.out q hlt
      clear hA HS
      generalize S q = s at *
      by_cases c1 : 1048576 < s.size
      · go_wp2
        go_ret
        exact ⟨⟨false, rfl, trivial⟩, rfl⟩
      by_cases c2 : 1048576 < x + s.size
      · go_wp2
        go_ret
        exact ⟨⟨false, rfl, trivial⟩, rfl⟩
      · go_wp2
        go_roundg (m - (q + 1))
        case measure => rw [HK.out]; omega
        case rel => exact ⟨rfl, q + 1, x + s.size, rfl, by omega, by go_num, by go_num, by omega⟩
    · clear hA
      go_wp2
      go_ret
      exact ⟨⟨true, rfl, trivial⟩, rfl⟩

/-- ZZnewFollower, the new blocks' numbers left open. -/
theorem newFol_at (bt : Bool) (st : Int) (a : Option Addr) (n c D m : Nat) (S : Nat → ByteArray) (w : World) (hm : m ≤ 65536) (hrow : w.rowIs D 9 m (fun j => .string (S j))) :
    Calls Tryf.prog 12 #[.bool bt, .int .i64 st, .slice a n c, .slice (some ⟨D, 0, none⟩) m m] w fun e w' => ∃ Q H, e = .returned (.pointer (some ⟨Q, 0, none⟩)) ∧ Fo w' Q bt st (.slice a n c) H m ∧ Below w.heap.size w w' := by
  refine (newFol_any bt st a n c D m S w hm hrow).mono ?_
  rintro e w' ⟨rfl, hF, hb⟩
  exact ⟨_, _, rfl, hF, hb⟩

/-- What is refused is 0. -/
theorem left_no {bt : Bool} {zs : List Int} {lo st : Nat} (h : leftOk bt zs lo st = false) : leftV bt zs lo st = 0 := by
  unfold leftOk at h
  unfold leftV
  split at h
  · rename_i hb
    rw [if_pos hb]
    unfold okSum at h
    unfold sumV
    rw [if_neg (by simpa using h)]
  · cases h

/-- A holder in range, as natural numbers. -/
theorem str_of {bt : Bool} {st n m i : Int} {N : Nat} {zs : List Int} (hR : InR bt st n m i true) (hn : n = (N : Int)) (hN : N ≤ 65536) (hpos : bt = true → ∀ j, j < N → 0 ≤ zs.getD j 0) (hbd : ∀ j, j < N → zs.getD j 0 ≤ top) :
    ∃ st' i' lo : Nat, st = (st' : Int) ∧ i = (i' : Int) ∧ i < m ∧ Str bt zs N i' st' lo := by
  obtain ⟨h1, h2, h3, h4, h5, h6, h7⟩ := hR rfl
  obtain ⟨st', rfl⟩ := Int.eq_ofNat_of_zero_le h1
  obtain ⟨i', rfl⟩ := Int.eq_ofNat_of_zero_le h3
  subst hn
  have e1 : ((i' : Int) + 1) * (st' : Int) = ((i' * st' : Nat) : Int) + (st' : Int) := by rw [Int.natCast_mul, Int.add_mul, Int.one_mul]
  refine ⟨st', i', i' * st', rfl, rfl, h5, ⟨by omega, by omega, by rw [Int.natCast_mul], e1, ?_, (fun e => by have := h7 e; omega), hpos, hbd⟩⟩
  rw [e1] at h6
  omega

end Go.Proofs.Qxb6615855aFmt
