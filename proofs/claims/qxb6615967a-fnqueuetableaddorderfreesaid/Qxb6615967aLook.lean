/-
  zzModelChains, zzDistinctPrefix, zzBytes_.., zzChainCount, zzChainHashesFit.
-/
import Derived.Test.Qxb6615967aAdd
namespace Go.Proofs.Qxb6615967a
open Go.RowKit

/-! ### The number of chains: plain -/
/-- The number of chains after k adds, as the table grows. -/
def mc : Nat → Nat
  | 0 => 0
  | k + 1 => if mc k ≤ 2 * k then (if mc k = 0 then 8 else 2 * mc k) else mc k

/-- c is a power of two from 8 on. -/
def P8 (c : Nat) : Prop := ∃ e, c = 8 * 2 ^ e
theorem P8.le_of_lt {a b : Nat} (ha : P8 a) (hb : P8 b) (h : a < b) : 2 * a ≤ b := by
  obtain ⟨x, rfl⟩ := ha
  obtain ⟨y, rfl⟩ := hb
  have hxy : x < y := by
    rcases Nat.lt_or_ge x y with h' | h'
    · exact h'
    · have := Nat.pow_le_pow_right (n := 2) (by omega) h'
      omega
  have := Nat.pow_le_pow_right (n := 2) (by omega) (show x + 1 ≤ y by omega)
  rw [Nat.pow_succ] at this
  omega
theorem P8.two {a : Nat} (ha : P8 a) : P8 (2 * a) := by
  obtain ⟨x, rfl⟩ := ha
  exact ⟨x + 1, by rw [Nat.pow_succ]; omega⟩
theorem P8.ge {a : Nat} (ha : P8 a) : 8 ≤ a := by
  obtain ⟨x, rfl⟩ := ha
  have := Nat.pow_pos (n := x) (show 0 < 2 by omega)
  omega

theorem mc_spec : ∀ k, P8 (mc (k + 1)) ∧ 2 * k < mc (k + 1) ∧ (mc (k + 1) = 8 ∨ mc (k + 1) ≤ 4 * k)
  | 0 => ⟨⟨0, rfl⟩, by decide, .inl rfl⟩
  | k + 1 => by
    obtain ⟨h1, h2, h3⟩ := mc_spec k
    have h8 := h1.ge
    have e : mc (k + 1 + 1) = if mc (k + 1) ≤ 2 * (k + 1) then (if mc (k + 1) = 0 then 8 else 2 * mc (k + 1)) else mc (k + 1) := rfl
    rw [e]
    by_cases c : mc (k + 1) ≤ 2 * (k + 1)
    · rw [if_pos c, if_neg (by omega)]
      exact ⟨h1.two, by omega, by omega⟩
    · rw [if_neg c]
      exact ⟨h1, by omega, by omega⟩

/-- What add asks of the number of chains. -/
theorem mc_step (k : Nat) : (2 * k < mc k ∧ mc (k + 1) = mc k) ∨ (mc k ≤ 2 * k ∧ ((mc k = 0 ∧ mc (k + 1) = 8) ∨ (8 ≤ mc k ∧ mc (k + 1) = 2 * mc k))) := by
  have e : mc (k + 1) = if mc k ≤ 2 * k then (if mc k = 0 then 8 else 2 * mc k) else mc k := rfl
  rw [e]
  cases k with
  | zero => exact .inr ⟨by decide, .inl ⟨rfl, rfl⟩⟩
  | succ k =>
    have h8 := (mc_spec k).1.ge
    by_cases c : mc (k + 1) ≤ 2 * (k + 1)
    · rw [if_pos c, if_neg (by omega)]
      exact .inr ⟨c, .inr ⟨h8, rfl⟩⟩
    · rw [if_neg c]
      exact .inl ⟨by omega, rfl⟩
theorem mc_le (k : Nat) (h : k ≤ 4096) : mc k ≤ 16384 := by
  cases k with
  | zero => decide
  | succ k => have := mc_spec k; omega

/-! ### zzModelChains -/
theorem model_any (n : Nat) (w : World) (hn : n ≤ 4096) :
    Calls Try.prog 8 #[.int .i64 n] w fun e w' => e = .returned (.int .i64 (mc n)) ∧ w' = w := by
  cases n with
  | zero =>
    go_enter Try.func8, Try.ntmps8
    go_wp2
    go_ret
    exact ⟨rfl, rfl⟩
  | succ k =>
    obtain ⟨h1, h2, h3⟩ := mc_spec k
    have hb := mc_le (k + 1) hn
    have HP := hide h1
    have H3 := hide h3
    clear h1 h3
    generalize mc (k + 1) = M at *
    have hk0 : ¬ ((k + 1 : Nat) : Int) ≤ 0 := by omega
    go_enter Try.func8, Try.ntmps8
    go_wp2
    go_loopg [3] (M - 8) (fun g cv wr => w = wr ∧ ∃ c : Nat, g = M - c ∧ P8 c ∧ c ≤ M ∧ cv = .int .i64 c)
    case atStart => exact ⟨rfl, 8, rfl, ⟨0, rfl⟩, HP.out.ge, rfl⟩
    case round =>
      obtain ⟨rfl, c, hg, hc, hcM, rfl⟩ := hrel
      have HG := hide hg
      have HC := hide hc
      have h8 := hc.ge
      clear hg hc
      by_cases hle : (c : Int) ≤ 2 * ((k + 1 : Nat) - 1 : Int)
      · have hlt : c < M := by omega
        have h2c := HC.out.le_of_lt HP.out hlt
        go_wp2
        go_roundg (M - 2 * c)
        case measure => rw [HG.out]; omega
        case rel => exact ⟨rfl, 2 * c, rfl, HC.out.two, h2c, by go_num⟩
      · obtain rfl : c = M := by
          rcases Nat.lt_or_ge c M with hlt | hge
          · have h2c := HC.out.le_of_lt HP.out hlt
            have := H3.out
            omega
          · omega
        go_wp2
        go_ret
        exact ⟨rfl, rfl⟩

/-! ### The bounds, and whether the first strings are distinct -/
/-- A slice of n one-cell elements: where it has an element it begins at ⟨b, off⟩, and element j is f j. -/
def At (w : World) (a : Option Addr) (n b off : Nat) (f : Nat → Value) : Prop := (0 < n → a = some ⟨b, off, none⟩) ∧ ∀ j, j < n → w.cell? ⟨b, off + j, none⟩ = some (f j)
theorem At.of_block {w w' : World} {a : Option Addr} {n b off : Nat} {f : Nat → Value} (h : At w a n b off f) (e : 0 < n → w'.heap[b]? = w.heap[b]?) : At w' a n b off f :=
  ⟨h.1, fun j hj => (World.cell?_of_block (w := w) (a := ⟨b, off + j, none⟩) (e (by omega))).trans (h.2 j hj)⟩
theorem At.lt {w : World} {a : Option Addr} {n b off : Nat} {f : Nat → Value} (h : At w a n b off f) (h0 : 0 < n) : b < w.heap.size := block_lt_of_cell (h.2 0 h0)

/-- A call that answers one bool; the world is as it was, but for draws. -/
structure Ans (w : World) (e : Ending) (w' : World) : Prop where
  says : ∃ r : Bool, e = .returned (.bool r)
  same : ∃ d, w' = w.drewN d

/-- What the bound on total length says: where it answers true, no string is longer than 2^20. -/
structure Bnd (n : Nat) (S : Nat → ByteArray) (w : World) (e : Ending) (w' : World) : Prop where
  says : ∃ r : Bool, e = .returned (.bool r) ∧ (r = true → ∀ j, j < n → (S j).size ≤ 1048576)
  same : w' = w

theorem bytes_any (a : Option Addr) (n c b off : Nat) (S : Nat → ByteArray) (a' : Option Addr) (m c' : Nat) (w : World) (hn : n ≤ maxLen) (hm : m ≤ maxLen) (hA : At w a n b off (fun j => .string (S j))) (hS : ∀ j, j < n → (S j).size ≤ maxLen) :
    Calls Try.prog 4 #[.slice a n c, .slice a' m c'] w (Bnd n S w) := by
  have HS := hide hS
  clear hS
  unfold maxLen at hn hm HS
  by_cases h1 : 1048576 < n
  · go_enter Try.func4, Try.ntmps4
    go_wp2
    go_ret
    exact ⟨⟨false, rfl, (fun h => by cases h)⟩, rfl⟩
  go_enter Try.func4, Try.ntmps4
  go_wp2
  go_loopg [5, 6] n (fun k z iv wr => w = wr ∧ ∃ q x : Nat, k = n - q ∧ q ≤ n ∧ iv = .int .i64 q ∧ z = .int .i64 x ∧ x ≤ 1048576 ∧ ∀ j, j < q → (S j).size ≤ 1048576)
  case atStart => exact ⟨rfl, 0, n, rfl, Nat.zero_le _, rfl, by go_num, by omega, fun j h => absurd h (by omega)⟩
  case round =>
    obtain ⟨rfl, q, x, hk, hq, rfl, rfl, hx, hall⟩ := hrel
    have HK := hide hk
    have HALL := hide hall
    clear hk hall
    by_cases hlt : q < n
    · obtain rfl := hA.1 (by omega)
      have ct := hA.2 q hlt
      simp only [] at ct
      have hsz := HS.out q hlt
      clear hA HS
      obtain ⟨s, hs⟩ : ∃ s, S q = s := ⟨_, rfl⟩
      rw [hs] at ct hsz
      have HSQ := hide hs
      clear hs
      by_cases c1 : 1048576 < s.size
      · go_wp2
        go_ret
        exact ⟨⟨false, rfl, (fun h => by cases h)⟩, rfl⟩
      by_cases c2 : 1048576 < x + s.size
      · go_wp2
        go_ret
        exact ⟨⟨false, rfl, (fun h => by cases h)⟩, rfl⟩
      · go_wp2
        go_roundg (n - (q + 1))
        case measure => rw [HK.out]; omega
        case rel =>
          refine ⟨rfl, q + 1, x + s.size, rfl, by omega, by go_num, by go_num, by omega, fun j hj => ?_⟩
          by_cases e : j = q
          · rw [e, HSQ.out]; omega
          · exact HALL.out j (by omega)
    · clear hA
      obtain rfl : q = n := by omega
      by_cases c1 : 1048576 < m
      · go_wp2
        go_ret
        exact ⟨⟨false, rfl, (fun h => by cases h)⟩, rfl⟩
      by_cases c2 : 1048576 < x + m
      · go_wp2
        go_ret
        exact ⟨⟨false, rfl, (fun h => by cases h)⟩, rfl⟩
      · go_wp2
        go_ret
        exact ⟨⟨true, rfl, fun _ => HALL.out⟩, rfl⟩

theorem drewN_drewN (w : World) (a b : Nat) : (w.drewN a).drewN b = w.drewN (a + b) := by simp [World.drewN, Nat.add_assoc]

theorem distinct_any (a : Option Addr) (n c b off k : Nat) (S : Nat → ByteArray) (w : World) (hn : n ≤ 4096) (hk : k ≤ n) (hA : At w a n b off (fun j => .string (S j))) :
    Calls Try.prog 5 #[.slice a n c, .int .i64 k] w (Ans w) := by
  go_enter Try.func5, Try.ntmps5
  go_wp2
  go_loopg [5] k (fun g iv wr => ∃ q d : Nat, g = k - q ∧ q ≤ k ∧ iv = .int .i64 q ∧ wr = w.drewN d)
  case atStart => exact ⟨0, 0, rfl, Nat.zero_le _, rfl, rfl⟩
  case round =>
    obtain ⟨q, d, hg, hq, rfl, rfl⟩ := hrel
    have HG := hide hg
    clear hg
    by_cases hlt : q < k
    · obtain rfl := hA.1 (by omega)
      have cq := hA.2 q (by omega)
      simp only [] at cq
      have HA := hide hA.2
      clear hA
      generalize S q = sq at *
      go_wp2
      go_loopg [6] (k - (q + 1)) (fun g iv wr => ∃ r d : Nat, g = k - r ∧ q < r ∧ r ≤ k ∧ iv = .int .i64 r ∧ wr = w.drewN d)
      case atStart => exact ⟨q + 1, d, rfl, by omega, by omega, by go_num, rfl⟩
      case round =>
        obtain ⟨r, d, hg, hqr, hr, rfl, rfl⟩ := hrel
        have HG2 := hide hg
        clear hg
        by_cases hlt2 : r < k
        · have cr := HA.out r (by omega)
          clear HA
          generalize S r = sr at *
          have hqn : (q : Int) < (n : Int) := by omega
          have hrn : (r : Int) < (n : Int) := by omega
          go_wp2
          go_quiet (fail)
          go_wp2
          · go_ret
            exact ⟨⟨false, rfl⟩, d + nq, (drewN_drewN w d nq)⟩
          · go_roundg (k - (r + 1))
            case measure => rw [HG2.out]; omega
            case rel => exact ⟨r + 1, d + nq, rfl, by omega, by omega, by go_num, by first | rfl | exact drewN_drewN w d nq⟩
        · go_wp2
          go_roundg (k - (q + 1))
          case measure => rw [HG.out]; omega
          case rel => exact ⟨q + 1, d, rfl, by omega, by go_num, rfl⟩
    · go_wp2
      go_ret
      exact ⟨⟨true, rfl⟩, d, rfl⟩
/-! ### zzChainCount, zzChainHashesFit -/
theorem count_any (tb len C nc k limit : Nat) (l : List Nd) (w : World) (hT : TabAt w tb (.slice (some ⟨C, 0, none⟩) nc nc) len) (hk : k < nc) (hc : w.cell? ⟨C, k, none⟩ = some (.pointer (hd l))) (hL : Links w l) (hl : l.length ≤ limit) (hlim : limit ≤ 1048576) :
    Calls Try.prog 11 #[.pointer (some ⟨tb, 0, none⟩), .int .i64 k, .int .i64 limit] w fun e w' => e = .returned (.int .i64 l.length) ∧ w' = w := by
  have HH := hide (head_any tb len C nc nc k (hd l) w hT hk hc)
  clear hT hc
  go_enter Try.func11, Try.ntmps11
  go_wp2_with fail
  refine HH.out.mono ?_
  rintro e w1 ⟨rfl, hw⟩
  obtain rfl := hw.symm
  clear hw HH
  go_wp2
  go_loopg [7, 8] l.length (fun g kv pv wr => w = wr ∧ ∃ (r : List Nd) (c : Nat), g = r.length ∧ pv = .pointer (hd r) ∧ kv = .int .i64 c ∧ c + r.length = l.length ∧ Links w r)
  case atStart => exact ⟨rfl, l, 0, rfl, rfl, rfl, by omega, hL⟩
  case round =>
    obtain ⟨rfl, r, c, hg, rfl, rfl, hcl, hLr⟩ := hrel
    have HG := hide hg
    have HCL := hide hcl
    have HL := hide hl
    clear hg hL
    cases r with
    | nil =>
      rw [hd_nil]
      obtain rfl : c = l.length := by simpa using hcl
      clear hcl hl
      go_wp2
      go_ret
      exact ⟨rfl, rfl⟩
    | cons x r =>
      rw [hd_cons]
      have HN := hide (next_any x.1 x.2 (hd r) w hLr.1)
      have hcl' : c + 1 ≤ limit := by simp at hcl; omega
      have HLR := hide hLr.2
      clear hcl hl hLr
      go_wp2_with fail
      refine HN.out.mono ?_
      rintro e w1 ⟨rfl, hw⟩
      obtain rfl := hw.symm
      clear hw HN
      go_wp2
      go_roundg r.length
      case measure => rw [HG.out]; simp
      case rel => exact ⟨rfl, r, c + 1, rfl, rfl, by go_num, by have := HCL.out; simp at this; omega, HLR.out⟩

theorem fit_any (tb len C nc k limit : Nat) (l : List Nd) (w : World) (hT : TabAt w tb (.slice (some ⟨C, 0, none⟩) nc nc) len) (hk : k < nc) (hnc : nc ≤ 65536) (hc : w.cell? ⟨C, k, none⟩ = some (.pointer (hd l))) (hL : Links w l) (hl : l.length ≤ limit) (hlim : limit ≤ 1048576) (hf : ∀ x ∈ l, pk nc x.2 = k) (hs : ∀ x ∈ l, x.2 < 18446744073709551616) :
    Calls Try.prog 12 #[.pointer (some ⟨tb, 0, none⟩), .int .i64 k, .int .i64 nc, .int .i64 limit] w fun e w' => e = .returned (.bool true) ∧ w' = w := by
  have HH := hide (head_any tb len C nc nc k (hd l) w hT hk hc)
  have HF := hide hf
  have HS := hide hs
  clear hT hc hf hs
  go_enter Try.func12, Try.ntmps12
  go_wp2_with fail
  refine HH.out.mono ?_
  rintro e w1 ⟨rfl, hw⟩
  obtain rfl := hw.symm
  clear hw HH
  go_wp2
  go_loopg [9, 10] l.length (fun g kv pv wr => w = wr ∧ ∃ (r : List Nd) (c : Nat), g = r.length ∧ pv = .pointer (hd r) ∧ kv = .int .i64 c ∧ c + r.length = l.length ∧ Links w r ∧ ∀ x ∈ r, x ∈ l)
  case atStart => exact ⟨rfl, l, 0, rfl, rfl, rfl, by omega, hL, fun _ h => h⟩
  case round =>
    obtain ⟨rfl, r, c, hg, rfl, rfl, hcl, hLr, hsub⟩ := hrel
    have HG := hide hg
    have HCL := hide hcl
    have HL := hide hl
    have HSUB := hide hsub
    clear hg hL hsub
    cases r with
    | nil =>
      rw [hd_nil]
      clear hcl hl hLr
      go_wp2
      go_ret
      exact ⟨rfl, rfl⟩
    | cons x r =>
      rw [hd_cons]
      have HN := hide (next_any x.1 x.2 (hd r) w hLr.1)
      have HQ := hide (hash_any x.1 x.2 (hd r) w hLr.1)
      have hcl' : c + 1 ≤ limit := by simp at hcl; omega
      have HLR := hide hLr.2
      have hb := pk_bits (nc := nc) (h := x.2) (by omega) (by omega) (HS.out x (HSUB.out x (by simp)))
      rw [HF.out x (HSUB.out x (by simp))] at hb
      have h1 : (1 : Int) ≤ (nc : Int) := by omega
      have hkk : ((k : Int) != (k : Int)) = false := by simp
      clear hcl hl hLr
      go_wp2_with fail
      refine HQ.out.mono ?_
      rintro e w1 ⟨rfl, hw⟩
      obtain rfl := hw.symm
      clear hw HQ
      go_wp2_with fail
      refine HN.out.mono ?_
      rintro e w1 ⟨rfl, hw⟩
      obtain rfl := hw.symm
      clear hw HN
      go_wp2
      go_roundg r.length
      case measure => rw [HG.out]; simp
      case rel => exact ⟨rfl, r, c + 1, rfl, rfl, by go_num, by have := HCL.out; simp at this; omega, HLR.out, fun y hy => HSUB.out y (by simp [hy])⟩

end Go.Proofs.Qxb6615967a
