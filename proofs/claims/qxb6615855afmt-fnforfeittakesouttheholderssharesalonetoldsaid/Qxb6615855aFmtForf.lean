/-
  left, ZZleft, forfeit, ZZforfeit, ZZshares: joined contracts.
-/
import Derived.Test.Qxb6615855aFmtSum
namespace Go.Proofs.Qxb6615855aFmt
open Go.RowKit

theorem left_any (F : Go.Stop.Interp) (bt : Bool) (Q H m n lo st i G : Nat) (a : Option Addr) (zs : List Int) (w : World) (hA : F.answers w.tape) (him : i < m) (hS : Str bt zs n i st lo) (hO : Ow w a n G zs) (hF : Fo w Q bt st (.slice a n n) H m) :
    Calls Tryf.prog 20 #[.pointer (some ⟨Q, 0, none⟩), .int .i64 i] w (LeftIs (leftV bt zs lo st) (leftOk bt zs lo st) w.heap.size w) := by
  have hle := hS.hle
  cases bt with
  | false =>
    have hst := hS.two rfl
    obtain ⟨rfl, hr⟩ := hO (by omega)
    refine (left_plain Q H m n lo st i G zs w hS hr hF).mono ?_
    rintro e w' ⟨rfl, k, rfl⟩
    exact ⟨⟨_, rfl, ErrIs.of_yes _ rfl⟩, below_drewN (Below.refl _ _) _⟩
  | true =>
    by_cases h0 : st = 0
    · obtain rfl := hS.st0 h0
      subst h0
      refine (left_none Q H m n n i a w hS.hi hF).mono ?_
      rintro e w' ⟨rfl, k, rfl⟩
      exact ⟨⟨_, rfl, ErrIs.of_yes _ rfl⟩, below_drewN (Below.refl _ _) _⟩
    · obtain ⟨rfl, hr⟩ := hO (by omega)
      exact left_tranche F Q H m n lo st i G zs w hA (by omega) him hS hr hF

theorem zzleft_any (F : Go.Stop.Interp) (bt : Bool) (Q H m n lo st i G : Nat) (a : Option Addr) (zs : List Int) (w : World) (hA : F.answers w.tape) (him : i < m) (hS : Str bt zs n i st lo) (hO : Ow w a n G zs) (hF : Fo w Q bt st (.slice a n n) H m) :
    Calls Tryf.prog 13 #[.pointer (some ⟨Q, 0, none⟩), .int .i64 i] w (LeftIs (leftV bt zs lo st) (leftOk bt zs lo st) w.heap.size w) := by
  have HL := hide (left_any F bt Q H m n lo st i G a zs w hA him hS hO hF)
  clear hS hO hF hA
  generalize leftV bt zs lo st = v at *
  generalize leftOk bt zs lo st = ok at *
  go_enter Tryf.func13, Tryf.ntmps13
  go_wp2_with fail
  refine HL.out.mono ?_
  rintro e w1 ⟨⟨er, rfl, he⟩, hb⟩
  go_wp2
  go_ret2
  exact ⟨⟨_, rfl, he⟩, hb⟩

theorem zzshares_any (bt : Bool) (Q H m n c : Nat) (st : Int) (a : Option Addr) (w : World) (hF : Fo w Q bt st (.slice a n c) H m) :
    Calls Tryf.prog 15 #[.pointer (some ⟨Q, 0, none⟩)] w fun e w' => e = .returned (.slice a n c) ∧ w' = w := by
  have c6 := hF.c6
  clear hF
  go_enter Tryf.func15, Tryf.ntmps15
  go_wp2
  go_ret
  exact ⟨rfl, rfl⟩

/-! ### clear -/
/-- Below B nothing but block R has turned. -/
structure But (B R : Nat) (w w' : World) : Prop where
  os : w'.os = w.os
  tape : w'.tape = w.tape
  output : w'.output = w.output
  size : w.heap.size ≤ w'.heap.size
  block : ∀ k, k < B → k ≠ R → w'.heap[k]? = w.heap[k]?

theorem But.of_below {B R : Nat} {w w' : World} (h : Below B w w') : But B R w w' := ⟨h.os, h.tape, h.output, h.size, fun k hk _ => h.block k hk⟩
theorem But.trans {B R : Nat} {a b c : World} (h : But B R a b) (k : But B R b c) : But B R a c :=
  ⟨k.os.trans h.os, k.tape.trans h.tape, k.output.trans h.output, Nat.le_trans h.size k.size, fun i hi hr => (k.block i hi hr).trans (h.block i hi hr)⟩
theorem But.setCells {B R : Nat} {a : World} : ∀ (vs : List Value) (o : Nat) (w : World), But B R a w → But B R a (w.setCells R o vs)
  | [], _, _, h => h
  | v :: vs, o, w, h => But.setCells vs (o + 1) (w.setCell ⟨R, o, none⟩ v) (h.trans ⟨rfl, rfl, rfl, by simp [World.setCell], fun k _ hk => Deep.blk_setCell_other _ _ _ _ hk⟩)
theorem But.below {B R : Nat} {w w' : World} (h : But B R w w') {B' : Nat} (hB : B' ≤ B) (hR : B' ≤ R) : Below B' w w' :=
  ⟨h.os, h.tape, h.output, h.size, fun k hk => h.block k (by omega) (by omega)⟩

theorem rowIs_clear {b : Nat} {t : TypeId} {n : Nat} (z : Value) : ∀ (k o : Nat) (w : World) (f : Nat → Value), w.rowIs b t n f → (w.setCells b o (List.replicate k z)).rowIs b t n (fun j => if o ≤ j ∧ j < o + k then z else f j)
  | 0, o, w, f, h => h.congr (fun j _ => by rw [if_neg (by omega)])
  | k + 1, o, w, f, h => (rowIs_clear z k (o + 1) _ _ (h.set o z)).congr (fun j _ => by
      by_cases e : j = o
      · subst e; simp
      · by_cases e2 : o + 1 ≤ j ∧ j < o + 1 + k
        · rw [if_pos e2, if_pos (by omega)]
        · rw [if_neg e2, if_neg e, if_neg (by omega)])

/-- The numbers with those from lo to lo + st at 0. -/
def cleared (n : Nat) (zs : List Int) (lo st : Nat) : List Int := (List.range n).map (fun j => if lo ≤ j ∧ j < lo + st then 0 else zs.getD j 0)
theorem cleared_get {n : Nat} {zs : List Int} {lo st j : Nat} (hj : j < n) : (cleared n zs lo st).getD j 0 = if lo ≤ j ∧ j < lo + st then 0 else zs.getD j 0 := by
  simp [cleared, List.getD, hj]

theorem zero2 (w : World) : (zeroValue 2).run Tryf.prog w = .ok (.int .i64 0) w := by kernel_rfl

/-- What forfeit answers, and what it leaves. -/
structure ForfIs (v : Int) (ok : Bool) (a : Option Addr) (n G : Nat) (zs : List Int) (w : World) (e : Ending) (w' : World) : Prop where
  ret : ∃ er, e = .returned (.tuple #[.int .i64 v, er]) ∧ ErrIs ok er
  but : But w.heap.size G w w'
  row : Ow w' a n G zs

theorem ne_of_type {w : World} {Q G : Nat} {c : Array Value} {t u : TypeId} {n : Nat} {f : Nat → Value} (hQ : w.heap[Q]? = some (.cells c t (0, 0))) (hG : w.rowIs G u n f) (h : t ≠ u) : Q ≠ G := by
  intro e
  obtain ⟨c', hb, _, _⟩ := hG
  rw [← e, hQ] at hb
  simp at hb
  exact h hb.2

theorem forfeit_any (F : Go.Stop.Interp) (bt : Bool) (Q H m n lo st i G : Nat) (a : Option Addr) (zs : List Int) (w : World) (hA : F.answers w.tape) (him : i < m) (hS : Str bt zs n i st lo) (hO : Ow w a n G zs) (hF : Fo w Q bt st (.slice a n n) H m) :
    Calls Tryf.prog 22 #[.pointer (some ⟨Q, 0, none⟩), .int .i64 i] w (ForfIs (leftV bt zs lo st) (leftOk bt zs lo st) a n G (cleared n zs lo st) w) := by
  have HL := hide (left_any F bt Q H m n lo st i G a zs w hA him hS hO hF)
  have hle := hS.hle
  have hn := hS.hn
  have hQ := hF.Qlt
  have hH := hF.Hlt
  have HS := hide hS
  clear hS
  generalize leftV bt zs lo st = v at *
  generalize leftOk bt zs lo st = ok at *
  by_cases h0 : st = 0
  · subst h0
    go_enter Tryf.func22, Tryf.ntmps22
    go_wp2_with fail
    refine HL.out.mono ?_
    rintro e w1 ⟨⟨er, rfl, he⟩, hb⟩
    have hF1 := hF.keep hb hQ hH
    have hO1 : Ow w1 a n G zs := hO.keep hb hO.lt
    have HH := hide (held_none Q H m n n i a bt w1 HS.out.hi hF1)
    go_wp2_with fail
    refine HH.out.mono ?_
    rintro e w2 ⟨⟨a', c', rfl⟩, k, rfl⟩
    have hcl : ∀ ty W, (Builtin.clear_ #[22] ty #[.slice a' 0 c']).run Tryf.prog W = .ok (.tuple #[]) W := fun ty W => by
      cases a' <;> simp [Builtin.clear_, run_underlying Tryf.underlying22]
    go_wp2
    go_ret2
    refine ⟨⟨_, rfl, he⟩, But.of_below (below_drewN hb _), fun h => ⟨(hO1 h).1, ?_⟩⟩
    refine (rowIs_drewN (hO1 h).2 k).congr (fun j hj => ?_)
    rw [cleared_get hj, if_neg (by omega)]
  · obtain ⟨rfl, hr⟩ := hO (by omega)
    have hG := hr.lt
    go_enter Tryf.func22, Tryf.ntmps22
    go_wp2_with fail
    refine HL.out.mono ?_
    rintro e w1 ⟨⟨er, rfl, he⟩, hb⟩
    have hF1 := hF.keep hb hQ hH
    have hr1 := hr.of_block (hb.block G hG)
    have HH := hide (held_some Q H m n lo st i G bt w1 (by omega) hn hle HS.out.hi HS.out.hlo HS.out.h2 hF1)
    go_wp2_with fail
    refine HH.out.mono ?_
    rintro e w2 ⟨rfl, k, hw2⟩
    have hr2 : w2.rowIs G 2 n (fun j => .int .i64 (zs.getD j 0)) := by rw [hw2]; exact rowIs_drewN hr1 k
    have hb2 : Below w.heap.size w w2 := by rw [hw2]; exact below_drewN hb k
    clear hw2
    have hcl : ∀ ty, (Builtin.clear_ #[22] ty #[.slice (some ⟨G, lo, none⟩) st (n - lo)]).run Tryf.prog w2 = .ok (.tuple #[]) (w2.setCells G lo (List.replicate st (.int .i64 0))) :=
      fun ty => Lib.run_clear_slice w2 22 2 ty (.int .i64 0) Tryf.underlying22 zero2 rfl rfl G lo st (n - lo) (by omega) (fun j hj => by rw [hr2.cell (by omega)]; rfl) (fun j hj => hr2.frozen _)
    go_wp2
    go_ret2
    refine ⟨⟨_, rfl, he⟩, But.setCells _ _ _ (But.of_below hb2), fun h => ⟨rfl, ?_⟩⟩
    refine (rowIs_clear (.int .i64 0) st lo w2 _ hr2).congr (fun j hj => ?_)
    rw [cleared_get hj]
    split <;> rfl

theorem zzforfeit_any (F : Go.Stop.Interp) (bt : Bool) (Q H m n lo st i G : Nat) (a : Option Addr) (zs : List Int) (w : World) (hA : F.answers w.tape) (him : i < m) (hS : Str bt zs n i st lo) (hO : Ow w a n G zs) (hF : Fo w Q bt st (.slice a n n) H m) :
    Calls Tryf.prog 18 #[.pointer (some ⟨Q, 0, none⟩), .int .i64 i] w (ForfIs (leftV bt zs lo st) (leftOk bt zs lo st) a n G (cleared n zs lo st) w) := by
  have HL := hide (forfeit_any F bt Q H m n lo st i G a zs w hA him hS hO hF)
  clear hS hO hF hA
  generalize leftV bt zs lo st = v at *
  generalize leftOk bt zs lo st = ok at *
  generalize cleared n zs lo st = zs' at *
  go_enter Tryf.func18, Tryf.ntmps18
  go_wp2_with fail
  refine HL.out.mono ?_
  rintro e w1 ⟨⟨er, rfl, he⟩, hb, ho⟩
  go_wp2
  go_ret2
  exact ⟨⟨_, rfl, he⟩, hb, ho⟩

end Go.Proofs.Qxb6615855aFmt
