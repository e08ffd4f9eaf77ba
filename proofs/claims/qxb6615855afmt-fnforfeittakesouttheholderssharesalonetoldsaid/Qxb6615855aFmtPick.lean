/-
  What the two laws over forfeit share.
-/
import Derived.Test.Qxb6615855aFmtBytes
namespace Go.Proofs.Qxb6615855aFmt
open Go.RowKit

/-- The row's block, apart from the follower's own. -/
theorem pick_row {w : World} {Q : Nat} {bt : Bool} {st : Int} {v : Value} {H m : Nat} {a : Option Addr} {n G B : Nat} {zs : List Int} (hF : Fo w Q bt st v H m) (hO : Ow w a n G zs) (hB : B ≤ w.heap.size) (hG : 0 < n → B ≤ G) :
    ∃ G', Ow w a n G' zs ∧ Q ≠ G' ∧ H ≠ G' ∧ B ≤ G' ∧ (0 < n → G' = G) := by
  by_cases h0 : 0 < n
  · obtain ⟨_, hr⟩ := hO h0
    refine ⟨G, hO, ne_of_type hF.fol hr (by decide), ?_, hG h0, fun _ => rfl⟩
    obtain ⟨g, ⟨c, hb, _, _⟩, _⟩ := hF.ids
    exact ne_of_type hb hr (by decide)
  · refine ⟨w.heap.size, fun h => absurd h h0, ?_, ?_, hB, fun h => absurd h h0⟩
    · have := hF.Qlt; omega
    · have := hF.Hlt; omega

theorem Fo.but {w w' : World} {Q : Nat} {bt : Bool} {st : Int} {v : Value} {H m G : Nat} (h : Fo w Q bt st v H m) (hb : But w.heap.size G w w') (hQ : Q ≠ G) (hH : H ≠ G) : Fo w' Q bt st v H m :=
  h.of_blocks (hb.block Q h.Qlt hQ) (hb.block H h.Hlt hH)
theorem Ow.but {w w' : World} {a : Option Addr} {n G R : Nat} {zs : List Int} (h : Ow w a n G zs) (hb : But w.heap.size R w w') (hR : 0 < n → G ≠ R) : Ow w' a n G zs :=
  fun h0 => ⟨(h h0).1, (h h0).2.of_block (hb.block G (h h0).2.lt (hR h0))⟩

theorem Str.clear {bt : Bool} {zs : List Int} {n i st lo : Nat} (h : Str bt zs n i st lo) (lo' st' : Nat) : Str bt (cleared n zs lo' st') n i st lo := by
  refine ⟨h.hn, h.hi, h.hlo, h.h2, h.hle, h.two, fun hb j hj => ?_, fun j hj => ?_⟩
  · rw [cleared_get hj]
    split
    · exact Int.le_refl _
    · exact h.pos hb j hj
  · rw [cleared_get hj]
    split
    · decide
    · exact h.bd j hj

/-- What is left is told by the stride alone. -/
theorem left_congr {bt : Bool} {zs ys : List Int} {lo st : Nat} (two : bt = false → 2 ≤ st) (h : ∀ t, t < st → ys.getD (lo + t) 0 = zs.getD (lo + t) 0) : leftV bt ys lo st = leftV bt zs lo st ∧ leftOk bt ys lo st = leftOk bt zs lo st := by
  have ht : tot (ysOf ys lo) st = tot (ysOf zs lo) st := tot_congr h
  cases bt with
  | true => simp [leftV, leftOk, sumV, okSum, ht]
  | false =>
    have := two rfl
    refine ⟨?_, rfl⟩
    show ys.getD (lo + 1) 0 = zs.getD (lo + 1) 0
    exact h 1 (by omega)

theorem tot_zero {ys : Nat → Int} {k : Nat} (h : ∀ j, j < k → ys j = 0) : tot ys k = 0 := by
  induction k with
  | zero => rfl
  | succ k ih => show tot ys k + ys k = 0; rw [ih (fun j hj => h j (by omega)), h k (by omega)]; rfl

theorem left_zero {bt : Bool} {ys : List Int} {lo st : Nat} (two : bt = false → 2 ≤ st) (h : ∀ t, t < st → ys.getD (lo + t) 0 = 0) : leftV bt ys lo st = 0 ∧ leftOk bt ys lo st = true := by
  cases bt with
  | true =>
    have ht : tot (ysOf ys lo) st = 0 := tot_zero h
    obtain ⟨h1, h2⟩ := sum_ok (ys := ysOf ys lo) (n := st) (by rw [ht]; decide)
    exact ⟨by show sumV _ _ = 0; rw [h1, ht], h2⟩
  | false =>
    have := two rfl
    exact ⟨h 1 (by omega), rfl⟩

theorem left_cleared {bt : Bool} {zs : List Int} {n i st lo : Nat} (h : Str bt zs n i st lo) : leftV bt (cleared n zs lo st) lo st = 0 ∧ leftOk bt (cleared n zs lo st) lo st = true :=
  left_zero h.two (fun t ht => by rw [cleared_get (by have := h.hle; omega), if_pos (by omega)])

/-- Two holders' strides lie apart. -/
theorem apart_of {bt : Bool} {zs : List Int} {n i j st lo lo2 : Nat} (h : Str bt zs n i st lo) (h2 : Str bt zs n j st lo2) (hij : i ≠ j) : lo + st ≤ lo2 ∨ lo2 + st ≤ lo := by
  have e1 : i * st = lo := by have := h.hlo; rw [← Int.natCast_mul] at this; omega
  have e2 : j * st = lo2 := by have := h2.hlo; rw [← Int.natCast_mul] at this; omega
  rcases Nat.lt_or_gt_of_ne hij with hl | hl
  · left
    have := Nat.mul_le_mul_right st (show i + 1 ≤ j by omega)
    rw [Nat.add_mul, Nat.one_mul] at this
    omega
  · right
    have := Nat.mul_le_mul_right st (show j + 1 ≤ i by omega)
    rw [Nat.add_mul, Nat.one_mul] at this
    omega

theorem same_of {bt : Bool} {zs : List Int} {n i st lo lo2 : Nat} (h : Str bt zs n i st lo) (h2 : Str bt zs n i st lo2) : lo = lo2 := by
  have e1 := h.hlo
  have e2 := h2.hlo
  omega

theorem left_spared {bt : Bool} {zs : List Int} {n i j st lo lo2 : Nat} (h : Str bt zs n i st lo) (h2 : Str bt zs n j st lo2) (hij : i ≠ j) :
    leftV bt (cleared n (cleared n zs lo st) lo st) lo2 st = leftV bt zs lo2 st ∧ leftOk bt (cleared n (cleared n zs lo st) lo st) lo2 st = leftOk bt zs lo2 st := by
  have ha := apart_of h h2 hij
  have hle := h2.hle
  refine left_congr h2.two (fun t ht => ?_)
  rw [cleared_get (by omega), if_neg (by omega), cleared_get (by omega), if_neg (by omega)]

/-- Two answers error for error alike. -/
theorem errs_same {ok : Bool} {x y : Value} (h : ErrIs ok x) (k : ErrIs ok y) : (x = .nilIface ∧ y = .nilIface) ∨ ∃ p q, x = .iface 60 (.pointer (some p)) ∧ y = .iface 60 (.pointer (some q)) := by
  cases ok with
  | true => exact .inl ⟨h.yes rfl, k.yes rfl⟩
  | false =>
    obtain ⟨p, hp⟩ := h.no rfl
    obtain ⟨q, hq⟩ := k.no rfl
    exact .inr ⟨p, q, hp, hq⟩

end Go.Proofs.Qxb6615855aFmt
