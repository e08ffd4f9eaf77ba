/-
  THE SUMS: wideSum, expectedLeft; held, left, forfeit.
-/
import Derived.Test.Qxb6615855aFmtBase
namespace Go.Proofs.Qxb6615855aFmt
open Go.RowKit

/-! ### The plain sums -/
/-- The sum of the first k of the numbers. -/
def tot (ys : Nat → Int) : Nat → Int
  | 0 => 0
  | k + 1 => tot ys k + ys k

/-- The greatest int64. -/
def top : Int := 9223372036854775807
def W64 : Int := 18446744073709551616

theorem tot_nonneg {ys : Nat → Int} {k : Nat} (h : ∀ j, j < k → 0 ≤ ys j) : 0 ≤ tot ys k := by
  induction k with
  | zero => exact Int.le_refl _
  | succ k ih => have := ih (fun j hj => h j (by omega)); have := h k (by omega); show 0 ≤ tot ys k + ys k; omega
theorem tot_mono {ys : Nat → Int} {n : Nat} (h : ∀ j, j < n → 0 ≤ ys j) {k d : Nat} (hk : k + d ≤ n) : tot ys k ≤ tot ys (k + d) := by
  induction d with
  | zero => exact Int.le_refl _
  | succ d ih => have := ih (by omega); have := h (k + d) (by omega); show _ ≤ tot ys (k + d) + ys (k + d); omega
theorem tot_le {ys : Nat → Int} {n k : Nat} (h : ∀ j, j < n → 0 ≤ ys j) (hk : k ≤ n) : tot ys k ≤ tot ys n := by
  have := tot_mono h (k := k) (d := n - k) (by omega)
  rwa [show k + (n - k) = n by omega] at this
theorem tot_congr {ys zs : Nat → Int} {k : Nat} (h : ∀ j, j < k → ys j = zs j) : tot ys k = tot zs k := by
  induction k with
  | zero => rfl
  | succ k ih => show tot ys k + ys k = tot zs k + zs k; rw [ih (fun j hj => h j (by omega)), h k (by omega)]

/-- One step of the wide sum: the low word, and whether it carried. -/
theorem wide_step {L y : Int} (hL : 0 ≤ L) (hL2 : L < W64) (hy : 0 ≤ y) (hy2 : y ≤ top) :
    (IntKind.u64.wrap (L + y) = L + y ∧ L ≤ L + y ∧ L + y < W64) ∨ ∃ N, IntKind.u64.wrap (L + y) = N ∧ N < L ∧ 0 ≤ N ∧ N + W64 = L + y := by
  unfold W64 top at *
  by_cases h : L + y < 18446744073709551616
  · left
    refine ⟨?_, by omega, h⟩
    simp [IntKind.wrap, IntKind.bits, IntKind.signed]
    omega
  · right
    refine ⟨L + y - 18446744073709551616, ?_, by omega, by omega, by omega⟩
    simp [IntKind.wrap, IntKind.bits, IntKind.signed]
    omega

def okSum (ys : Nat → Int) (n : Nat) : Bool := decide (tot ys n ≤ top)
def sumV (ys : Nat → Int) (n : Nat) : Int := if tot ys n ≤ top then tot ys n else 0

theorem sum_ok {ys : Nat → Int} {n : Nat} (h : tot ys n ≤ top) : sumV ys n = tot ys n ∧ okSum ys n = true := by simp [sumV, okSum, h]
theorem sum_no {ys : Nat → Int} {n : Nat} (h : top < tot ys n) : sumV ys n = 0 ∧ okSum ys n = false := by
  have : ¬ tot ys n ≤ top := by omega
  simp [sumV, okSum, this]

set_option maxHeartbeats 1000000 in
theorem wideSum_any (a : Option Addr) (n c b off : Nat) (ys : Nat → Int) (w : World) (hn : n ≤ 131072) (h0 : ∀ j, j < n → 0 ≤ ys j) (h1 : ∀ j, j < n → ys j ≤ top) (hA : At w a n b off (fun j => .int .i64 (ys j))) :
    Calls Tryf.prog 21 #[.slice a n c] w fun e w' => e = .returned (.tuple #[.int .i64 (sumV ys n), .bool (okSum ys n)]) ∧ w' = w := by
  go_enter Tryf.func21, Tryf.ntmps21
  go_wp2
  go_loopg [4, 5, 6] n (fun k lv hv i wr => w = wr ∧ ∃ (q Hh : Nat) (L : Int), k = n - q ∧ q ≤ n ∧ i = .int .i64 q ∧ lv = .int .u64 L ∧ hv = .int .u64 Hh ∧ Hh ≤ q ∧ 0 ≤ L ∧ Hid (L < W64 ∧ tot ys q = Hh * W64 + L))
  case atStart => exact ⟨rfl, 0, 0, 0, rfl, Nat.zero_le _, rfl, rfl, rfl, Nat.le_refl _, Int.le_refl _, by decide, by simp [tot]⟩
  case round =>
    obtain ⟨rfl, q, Hh, L, hk, hq, rfl, rfl, rfl, hHq, hL0, HT⟩ := hrel
    have HK := hide hk
    clear hk
    by_cases hlt : q < n
    · obtain rfl := hA.1 (by omega)
      have hy0 := h0 q hlt
      have hy1 := h1 q hlt
      have ct := hA.2 q hlt
      have HY : Hid (tot ys (q + 1) = tot ys q + ys q) := rfl
      simp only [] at ct
      generalize ys q = y at *
      rcases wide_step hL0 HT.out.1 hy0 hy1 with ⟨hw, hle, hlw⟩ | ⟨N, hw, hlN, hN0, hNw⟩
      · unfold top at hy1
        have HLW := hide hlw
        clear hlw hA
        go_wp2
        go_roundg (n - (q + 1))
        case measure => rw [HK.out]; omega
        case rel => exact ⟨rfl, q + 1, Hh, L + y, rfl, by omega, by go_num, rfl, rfl, by omega, by omega, HLW.out, by rw [HY.out, HT.out.2]; omega⟩
      · unfold top at hy1
        have HNW := hide hNw
        clear hNw hA
        go_wp2
        go_roundg (n - (q + 1))
        case measure => rw [HK.out]; omega
        case rel =>
          have h1 := HT.out.1
          have h2 := HT.out.2
          have h3 := HNW.out
          refine ⟨rfl, q + 1, Hh + 1, N, rfl, by omega, by go_num, rfl, by go_num, by omega, by omega, by omega, ?_⟩
          rw [HY.out, h2]
          unfold W64 at *
          omega
    · obtain rfl : q = n := by omega
      clear hA h0 h1
      by_cases hz : Hh = 0
      · subst hz
        have hT : tot ys q = L := by have := HT.out.2; simpa using this
        by_cases hbig : L ≤ 9223372036854775807
        · have HE := hide (sum_ok (ys := ys) (n := q) (by rw [hT]; exact hbig))
          rw [hT] at HE
          clear hT
          go_wp2
          go_ret2
          exact ⟨by rw [HE.out.1, HE.out.2]; rfl, rfl⟩
        · have HE := hide (sum_no (ys := ys) (n := q) (by rw [hT]; unfold top; omega))
          clear hT
          go_wp2
          go_ret2
          exact ⟨by rw [HE.out.1, HE.out.2]; rfl, rfl⟩
      · have HE := hide (sum_no (ys := ys) (n := q) (by have := HT.out.2; unfold W64 at this; unfold top; omega))
        have hz' : ((Hh : Int) != 0) = true := by rw [bne_iff_ne]; omega
        go_wp2
        go_ret2
        exact ⟨by rw [HE.out.1, HE.out.2]; rfl, rfl⟩

/-! ### expectedLeft -/
/-- The numbers from place lo on. -/
def ysOf (zs : List Int) (lo : Nat) : Nat → Int := fun j => zs.getD (lo + j) 0
/-- What a holder whose stride begins at lo has left, and whether it can be counted. -/
def leftV (bt : Bool) (zs : List Int) (lo st : Nat) : Int := if bt = true then sumV (ysOf zs lo) st else zs.getD (lo + 1) 0
def leftOk (bt : Bool) (zs : List Int) (lo st : Nat) : Bool := if bt = true then okSum (ysOf zs lo) st else true

/-- The premises on a holder's stride. -/
structure Str (bt : Bool) (zs : List Int) (n i st lo : Nat) : Prop where
  hn : n ≤ 131072
  hi : i ≤ 65536
  hlo : (i : Int) * (st : Int) = (lo : Int)
  h2 : ((i : Int) + 1) * (st : Int) = (lo : Int) + (st : Int)
  hle : lo + st ≤ n
  two : bt = false → 2 ≤ st
  pos : bt = true → ∀ j, j < n → 0 ≤ zs.getD j 0
  bd : ∀ j, j < n → zs.getD j 0 ≤ top

theorem Str.st0 {bt : Bool} {zs : List Int} {n i st lo : Nat} (h : Str bt zs n i st lo) (e : st = 0) : lo = 0 := by
  have := h.hlo
  subst e
  simp at this
  omega

theorem expected_plain (st lo i n G : Nat) (zs : List Int) (w : World) (hS : Str false zs n i st lo) (hr : w.rowIs G 2 n (fun j => .int .i64 (zs.getD j 0))) :
    Calls Tryf.prog 14 #[.bool false, .int .i64 st, .slice (some ⟨G, 0, none⟩) n n, .int .i64 i] w fun e w' => e = .returned (.tuple #[.int .i64 (zs.getD (lo + 1) 0), .bool true]) ∧ w' = w := by
  have hst := hS.two rfl
  have hle := hS.hle
  have hn := hS.hn
  have hlo := hS.hlo
  have ct := hr.cell (show lo + 1 < n by omega)
  obtain ⟨z, hz⟩ : ∃ z, zs.getD (lo + 1) 0 = z := ⟨_, rfl⟩
  rw [hz] at ct ⊢
  clear hz hS
  go_enter Tryf.func14, Tryf.ntmps14
  go_wp2
  go_ret2
  exact ⟨rfl, rfl⟩

theorem expected_tranche (st lo i n G : Nat) (zs : List Int) (w : World) (h0 : 0 < st) (hS : Str true zs n i st lo) (hr : w.rowIs G 2 n (fun j => .int .i64 (zs.getD j 0))) :
    Calls Tryf.prog 14 #[.bool true, .int .i64 st, .slice (some ⟨G, 0, none⟩) n n, .int .i64 i] w fun e w' => e = .returned (.tuple #[.int .i64 (sumV (ysOf zs lo) st), .bool (okSum (ysOf zs lo) st)]) ∧ w' = w := by
  have hle := hS.hle
  have hn := hS.hn
  have hlo := hS.hlo
  have HW := hide (wideSum_any (some ⟨G, lo, none⟩) st (n - lo) G lo (ysOf zs lo) w (by omega) (fun j hj => hS.pos rfl _ (by omega)) (fun j hj => hS.bd _ (by omega)) ⟨fun _ => rfl, fun j hj => hr.cell (by omega)⟩)
  have hne : ¬ n = lo := by omega
  clear hS hr
  generalize sumV (ysOf zs lo) st = sv at *
  generalize okSum (ysOf zs lo) st = so at *
  go_enter Tryf.func14, Tryf.ntmps14
  go_wp2_with fail
  refine HW.out.mono ?_
  rintro e w1 ⟨rfl, rfl⟩
  go_wp2
  go_ret2
  exact ⟨rfl, rfl⟩

theorem expected_none (i n c : Nat) (a : Option Addr) (ys : Nat → Int) (w : World) :
    Calls Tryf.prog 14 #[.bool true, .int .i64 0, .slice a n c, .int .i64 i] w fun e w' => e = .returned (.tuple #[.int .i64 (sumV ys 0), .bool (okSum ys 0)]) ∧ w' = w := by
  have hw : ∀ a' c', Calls Tryf.prog 21 #[.slice a' 0 c'] w fun e w' => e = .returned (.tuple #[.int .i64 (sumV ys 0), .bool (okSum ys 0)]) ∧ w' = w :=
    fun a' c' => wideSum_any a' 0 c' 0 0 ys w (by omega) (fun j hj => absurd hj (by omega)) (fun j hj => absurd hj (by omega)) ⟨fun h => absurd h (by omega), fun j hj => absurd hj (by omega)⟩
  have HW := hide hw
  clear hw
  generalize sumV ys 0 = sv at *
  generalize okSum ys 0 = so at *
  cases a with
  | none =>
    go_enter Tryf.func14, Tryf.ntmps14
    go_wp2_with fail
    refine (HW.out _ _).mono ?_
    rintro e w1 ⟨rfl, rfl⟩
    go_wp2
    go_ret2
    exact ⟨rfl, rfl⟩
  | some x =>
    go_enter Tryf.func14, Tryf.ntmps14
    go_wp2_with fail
    refine (HW.out _ _).mono ?_
    rintro e w1 ⟨rfl, rfl⟩
    go_wp2
    go_ret2
    exact ⟨rfl, rfl⟩

/-- expectedLeft: what is left, and whether it can be counted. -/
theorem expected_any (bt : Bool) (st lo i n G : Nat) (a : Option Addr) (zs : List Int) (w : World) (hS : Str bt zs n i st lo) (hO : Ow w a n G zs) :
    Calls Tryf.prog 14 #[.bool bt, .int .i64 st, .slice a n n, .int .i64 i] w fun e w' => e = .returned (.tuple #[.int .i64 (leftV bt zs lo st), .bool (leftOk bt zs lo st)]) ∧ w' = w := by
  have hle := hS.hle
  cases bt with
  | false =>
    have hst := hS.two rfl
    obtain ⟨rfl, hr⟩ := hO (by omega)
    exact expected_plain st lo i n G zs w hS hr
  | true =>
    by_cases h0 : st = 0
    · obtain rfl := hS.st0 h0
      subst h0
      exact expected_none i n n a (ysOf zs 0) w
    · obtain ⟨rfl, hr⟩ := hO (by omega)
      exact expected_tranche st lo i n G zs w (by omega) hS hr

/-! ### held -/
theorem held_some (Q H m n lo st i G : Nat) (bt : Bool) (w : World) (h0 : 0 < st) (hn : n ≤ 131072) (hle : lo + st ≤ n) (hi : i ≤ 65536) (hlo : (i : Int) * (st : Int) = (lo : Int)) (h2 : ((i : Int) + 1) * (st : Int) = (lo : Int) + (st : Int))
    (hF : Fo w Q bt st (.slice (some ⟨G, 0, none⟩) n n) H m) :
    Calls Tryf.prog 23 #[.pointer (some ⟨Q, 0, none⟩), .int .i64 i] w fun e w' => e = .returned (.slice (some ⟨G, lo, none⟩) st (n - lo)) ∧ ∃ k, w' = w.drewN k := by
  have hne : ¬ n = lo := by omega
  have c5 := hF.c5
  have c6 := hF.c6
  clear hF
  go_enter Tryf.func23, Tryf.ntmps23
  go_wp2
  go_quiet (fail)
  go_wp2
  go_ret
  refine ⟨?_, _, rfl⟩
  show Ending.returned (Value.slice (some ⟨G, lo, none⟩) (lo + st - lo) (n - lo)) = _
  rw [Nat.add_sub_cancel_left]

theorem held_none (Q H m n c i : Nat) (a : Option Addr) (bt : Bool) (w : World) (hi : i ≤ 65536) (hF : Fo w Q bt 0 (.slice a n c) H m) :
    Calls Tryf.prog 23 #[.pointer (some ⟨Q, 0, none⟩), .int .i64 i] w fun e w' => (∃ a' c', e = .returned (.slice a' 0 c')) ∧ ∃ k, w' = w.drewN k := by
  have c5 := hF.c5
  have c6 := hF.c6
  clear hF
  cases a with
  | none =>
    go_enter Tryf.func23, Tryf.ntmps23
    go_wp2
    go_quiet (fail)
    go_wp2
    go_ret
    exact ⟨⟨_, _, rfl⟩, _, rfl⟩
  | some x =>
    go_enter Tryf.func23, Tryf.ntmps23
    go_wp2
    go_quiet (fail)
    go_wp2
    go_ret
    exact ⟨⟨_, _, rfl⟩, _, rfl⟩

/-! ### left -/
/-- What an error result is: nil, or an error of errors.New's make. -/
structure ErrIs (ok : Bool) (er : Value) : Prop where
  yes : ok = true → er = .nilIface
  no : ok = false → ∃ p, er = .iface 60 (.pointer (some p))
theorem ErrIs.of_yes (ok : Bool) (h : ok = true) : ErrIs ok .nilIface := ⟨fun _ => rfl, (fun e => by rw [h] at e; cases e)⟩
theorem ErrIs.of_no (ok : Bool) (h : ok = false) (p : Addr) : ErrIs ok (.iface 60 (.pointer (some p))) := ⟨(fun e => by rw [h] at e; cases e), fun _ => ⟨p, rfl⟩⟩

/-- What left answers: the number, and an error just where it cannot be counted; nothing below B has turned. -/
structure LeftIs (v : Int) (ok : Bool) (B : Nat) (w : World) (e : Ending) (w' : World) : Prop where
  ret : ∃ er, e = .returned (.tuple #[.int .i64 v, er]) ∧ ErrIs ok er
  bel : Below B w w'

theorem rowIs_drewN {w : World} {b : Nat} {t : TypeId} {n : Nat} {f : Nat → Value} (h : w.rowIs b t n f) (k : Nat) : (w.drewN k).rowIs b t n f := h.of_block (by simp [World.drewN])
theorem Fo.drewN {w : World} {Q : Nat} {bt : Bool} {st : Int} {v : Value} {H m : Nat} (h : Fo w Q bt st v H m) (k : Nat) : Fo (w.drewN k) Q bt st v H m := h.of_blocks (by simp [World.drewN]) (by simp [World.drewN])
theorem size_drewN (w : World) (k : Nat) : (w.drewN k).heap.size = w.heap.size := by simp [World.drewN]

theorem left_plain (Q H m n lo st i G : Nat) (zs : List Int) (w : World) (hS : Str false zs n i st lo) (hr : w.rowIs G 2 n (fun j => .int .i64 (zs.getD j 0)))
    (hF : Fo w Q false st (.slice (some ⟨G, 0, none⟩) n n) H m) :
    Calls Tryf.prog 20 #[.pointer (some ⟨Q, 0, none⟩), .int .i64 i] w fun e w' => e = .returned (.tuple #[.int .i64 (zs.getD (lo + 1) 0), .nilIface]) ∧ ∃ k, w' = w.drewN k := by
  have hst := hS.two rfl
  have hle := hS.hle
  have HH := hide (held_some Q H m n lo st i G false w (by omega) hS.hn hle hS.hi hS.hlo hS.h2 hF)
  have ct := hr.cell (show lo + 1 < n by omega)
  have c4 := hF.c4
  have h1 : (1 : Int) < (st : Int) := by omega
  obtain ⟨z, hz⟩ : ∃ z, zs.getD (lo + 1) 0 = z := ⟨_, rfl⟩
  rw [hz] at ct ⊢
  clear hz hS hF hr
  go_enter Tryf.func20, Tryf.ntmps20
  go_wp2_with fail
  refine HH.out.mono ?_
  rintro e w1 ⟨rfl, k, rfl⟩
  go_wp2
  go_ret2
  exact ⟨rfl, _, rfl⟩

theorem left_none (Q H m n c i : Nat) (a : Option Addr) (w : World) (hi : i ≤ 65536) (hF : Fo w Q true 0 (.slice a n c) H m) :
    Calls Tryf.prog 20 #[.pointer (some ⟨Q, 0, none⟩), .int .i64 i] w fun e w' => e = .returned (.tuple #[.int .i64 0, .nilIface]) ∧ ∃ k, w' = w.drewN k := by
  have HH := hide (held_none Q H m n c i a true w hi hF)
  have c4 := hF.c4
  clear hF
  go_enter Tryf.func20, Tryf.ntmps20
  go_wp2_with fail
  refine HH.out.mono ?_
  rintro e w1 ⟨⟨a', c', rfl⟩, k, rfl⟩
  go_wp2
  refine wp_loop_rounds 1 ?_
  rw [rounds_succ]
  go_wp2
  go_ret2
  exact ⟨rfl, _, rfl⟩

set_option maxHeartbeats 1000000 in
theorem left_tranche (F : Go.Stop.Interp) (Q H m n lo st i G : Nat) (zs : List Int) (w : World) (hA : F.answers w.tape) (h0 : 0 < st) (him : i < m) (hS : Str true zs n i st lo) (hr : w.rowIs G 2 n (fun j => .int .i64 (zs.getD j 0)))
    (hF : Fo w Q true st (.slice (some ⟨G, 0, none⟩) n n) H m) :
    Calls Tryf.prog 20 #[.pointer (some ⟨Q, 0, none⟩), .int .i64 i] w (LeftIs (sumV (ysOf zs lo) st) (okSum (ysOf zs lo) st) w.heap.size w) := by
  have hle := hS.hle
  have HH := hide (held_some Q H m n lo st i G true w (by omega) hS.hn hle hS.hi hS.hlo hS.h2 hF)
  have HS := hide hS
  have c4 := hF.c4
  have hn := hS.hn
  clear hS
  go_enter Tryf.func20, Tryf.ntmps20
  go_wp2_with fail
  refine HH.out.mono ?_
  rintro e w1 ⟨rfl, k, hw1⟩
  have hr1 : w1.rowIs G 2 n (fun j => .int .i64 (zs.getD j 0)) := by rw [hw1]; exact rowIs_drewN hr k
  have hF1 : Fo w1 Q true st (.slice (some ⟨G, 0, none⟩) n n) H m := by rw [hw1]; exact hF.drewN k
  have hA1 : F.answers w1.tape := by rw [hw1]; exact hA
  have hb1 : Below w.heap.size w w1 := by rw [hw1]; exact below_drewN (Below.refl _ _) k
  have hsz : w.heap.size ≤ w1.heap.size := hb1.size
  have c41 := hF1.c4
  clear hw1 hr hF hA c4 HH
  go_wp2
  go_loopg [7, 23] st (fun k sv iv wr => w1 = wr ∧ ∃ q : Nat, k = st - q ∧ q ≤ st ∧ iv = .int .i64 q ∧ sv = .int .i64 (tot (ysOf zs lo) q) ∧ tot (ysOf zs lo) q ≤ top)
  case atStart => exact ⟨rfl, 0, rfl, Nat.zero_le _, rfl, rfl, by show (0 : Int) ≤ top; decide⟩
  case round =>
    obtain ⟨rfl, q, hk, hq, rfl, rfl, htop⟩ := hrel
    have HK := hide hk
    clear hk
    have htn : 0 ≤ tot (ysOf zs lo) q := tot_nonneg (fun j hj => HS.out.pos rfl _ (by omega))
    by_cases hlt : q < st
    · have ct := hr1.cell (show lo + q < n by omega)
      have hy0 := HS.out.pos rfl (lo + q) (by omega)
      have hy1 := HS.out.bd (lo + q) (by omega)
      have HY : Hid (tot (ysOf zs lo) (q + 1) = tot (ysOf zs lo) q + zs.getD (lo + q) 0) := rfl
      have HT : Hid (tot (ysOf zs lo) (q + 1) ≤ tot (ysOf zs lo) st) := tot_le (fun j hj => HS.out.pos rfl _ (by omega)) (by omega)
      generalize zs.getD (lo + q) 0 = y at *
      generalize tot (ysOf zs lo) q = t at *
      unfold top at hy1 htop
      by_cases hov : 9223372036854775807 - t < y
      · have HE := hide (sum_no (ys := ysOf zs lo) (n := st) (by have := HT.out; rw [HY.out] at this; unfold top; omega))
        obtain ⟨s, cid⟩ := hF1.id him
        have c3 := hF1.c3
        have hilt : (i : Int) < (m : Int) := by omega
        have HF := hide (errorf_any F s w1.heap.size (w1.alloc (.cells #[.iface 9 (.string s)] 20)) hA1 (by simp))
        go_wp2_with fail
        refine HF.out.mono ?_
        rintro e w2 ⟨rfl, hb2⟩
        have hbf : Below w.heap.size w w2 := (hb1.alloc (by omega) _).trans (hb2.mono (by simp; omega))
        clear hb2
        go_wp2
        go_ret2
        exact ⟨⟨_, by rw [HE.out.1]; rfl, ErrIs.of_no _ HE.out.2 _⟩, hbf⟩
      · go_wp2
        go_roundg (st - (q + 1))
        case measure => rw [HK.out]; omega
        case rel => exact ⟨rfl, q + 1, rfl, by omega, by go_num, by rw [HY.out], by rw [HY.out]; unfold top; omega⟩
    · obtain rfl : q = st := by omega
      have HE := hide (sum_ok (ys := ysOf zs lo) (n := q) htop)
      have HT : Hid (tot (ysOf zs lo) q = tot (ysOf zs lo) q) := rfl
      unfold top at htop
      go_wp2
      go_ret2
      exact ⟨⟨_, by rw [HE.out.1]; rfl, ErrIs.of_yes _ HE.out.2⟩, hb1⟩

end Go.Proofs.Qxb6615855aFmt
