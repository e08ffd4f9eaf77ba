/-
  Two decimal digits appended to nil; two bytes compared; two digits read back.
-/
import Derived.Test.Qxb6614720aProg
import Derived.WalkKit
import Derived.WalkSmall
import Derived.WalkSpells
import Derived.WalkLawsBesides
import Derived.Deep.OwnRows
import Derived.Deep.LoopGhost
import Derived.Deep.QuietTactic
import Derived.BigQuiet
import Derived.Deep.AppendLies
import Derived.Laws.OwnMore
namespace Go.Proofs.Qxb6614720a
open Go.RowKit

theorem hide {p : Prop} (h : p) : Hid p := h

theorem info5 : (Try.prog.info? 5).map (fun i => (i.zero, i.size, i.bytes)) = some (some (.int .u8 0), 1, 1) := by kernel_rfl

theorem two_any (n : Int) (p q : Nat) (hp : p < 10) (hq : q < 10) (hd : n.tdiv 10 = p) (hm : n.tmod 10 = q) (w : World) :
    Calls Try.prog 7 #[.slice none 0 0, .int .i64 n] w fun e w' => ∃ g cap, e = .returned (.slice (some ⟨g, 0, none⟩) 2 cap) ∧ w.heap.size ≤ g ∧ g < w'.heap.size ∧ w'.cell? ⟨g, 0, none⟩ = some (.int .u8 (48 + p)) ∧ w'.cell? ⟨g, 1, none⟩ = some (.int .u8 (48 + q)) ∧ Below w.heap.size w w' := by
  obtain ⟨i0, hi, hz0, hz1, hz2⟩ := info_parts info5
  go_enter Try.func7, Try.ntmps7
  go_wp2_with (at_builtin; refine wpList_append_lies _ rfl _ _ 22 rfl w.heap.size 5 i0 (.int .u8 0) 1 1 Try.underlying22 hi hz0 hz1 hz2 rfl (by decide) (.slice none 0 0) 0 [] rfl (World.ownsRow_nil _ _ _ _) ⟨w.heap.size, 0, none⟩ 2 2 [.int .u8 (48 + p), .int .u8 (48 + q)] rfl rfl ?c1 ?c2 (by decide) ?c3 ?c4 ?c5 _ rfl ?_)
  case c1 => exact cell_two_new _ _ _ _
  case c2 => intro u hu; simp at hu; rcases hu with rfl | rfl <;> rfl
  case c3 => decide
  case c4 => decide
  case c5 => simp
  intro g cap w1 hown hgrow hat hlt
  have c0 : w1.cell? ⟨g, 0, none⟩ = some (.int .u8 (48 + p)) := (hown.cellAt 0 (by decide)).trans rfl
  have c1 : w1.cell? ⟨g, 1, none⟩ = some (.int .u8 (48 + q)) := (hown.cellAt 1 (by decide)).trans rfl
  have hg : w.heap.size ≤ g := by
    rcases hat with h | h
    · exact absurd h (by simp [Value.ownBlock])
    · omega
  have hb : Below w.heap.size w w1 := ((Below.refl w.heap.size w).alloc (Nat.le_refl _) _).grown hgrow (by simp) (fun k h => by simp [Value.ownBlock] at h)
  have HB := hide hb
  have H0 := hide c0
  have H1 := hide c1
  clear hb c0 c1 hown hgrow hat
  go_wp2
  go_ret
  exact ⟨g, cap, rfl, hg, hlt, H0.out, H1.out, HB.out⟩

theorem zz_two_any (n : Int) (p q : Nat) (hp : p < 10) (hq : q < 10) (hd : n.tdiv 10 = p) (hm : n.tmod 10 = q) (w : World) :
    Calls Try.prog 4 #[.slice none 0 0, .int .i64 n] w fun e w' => ∃ g cap, e = .returned (.slice (some ⟨g, 0, none⟩) 2 cap) ∧ w.heap.size ≤ g ∧ g < w'.heap.size ∧ w'.cell? ⟨g, 0, none⟩ = some (.int .u8 (48 + p)) ∧ w'.cell? ⟨g, 1, none⟩ = some (.int .u8 (48 + q)) ∧ Below w.heap.size w w' := by
  have HC := hide (two_any n p q hp hq hd hm w)
  clear hd hm
  go_enter Try.func4, Try.ntmps4
  go_wp2_with fail
  refine HC.out.mono ?_
  rintro e w1 ⟨g, cap, rfl, hg, hlt, h0, h1, hb⟩
  have HB := hide hb
  have H0 := hide h0
  have H1 := hide h1
  clear hb h0 h1 HC
  go_wp2
  go_ret
  exact ⟨g, cap, rfl, hg, hlt, H0.out, H1.out, HB.out⟩

/-- Two digits read back. -/
theorem value_any (n : Int) (p q g cap : Nat) (hp : p < 10) (hq : q < 10) (hn : n = 10 * (p : Int) + (q : Int)) (w : World) (h0 : w.cell? ⟨g, 0, none⟩ = some (.int .u8 (48 + p))) (h1 : w.cell? ⟨g, 1, none⟩ = some (.int .u8 (48 + q))) :
    Calls Try.prog 6 #[.slice (some ⟨g, 0, none⟩) 2 cap] w fun e w' => e = .returned (.int .i64 n) ∧ ∃ k, w' = w.drewN k := by
  have HN := hide hn
  clear hn
  go_enter Try.func6, Try.ntmps6
  go_wp2
  go_quiet (fail)
  go_wp2
  go_ret
  refine ⟨?_, _, rfl⟩
  show Ending.returned (Value.int .i64 ((48 + (p : Int) - 48) * 10 + (48 + (q : Int) - 48))) = _
  rw [HN.out]
  exact congrArg (fun z => Ending.returned (Value.int .i64 z)) (by omega)

/-- How two pairs of bytes compare. -/
def cmp2 (x y x' y' : Nat) : Int := if x < x' then -1 else if x' < x then 1 else if y < y' then -1 else if y' < y then 1 else 0

theorem compare_any (p q p' q' g cap g' cap' : Nat) (hp : p < 10) (hq : q < 10) (hp' : p' < 10) (hq' : q' < 10) (w : World) (h0 : w.cell? ⟨g, 0, none⟩ = some (.int .u8 (48 + p))) (h1 : w.cell? ⟨g, 1, none⟩ = some (.int .u8 (48 + q))) (h0' : w.cell? ⟨g', 0, none⟩ = some (.int .u8 (48 + p'))) (h1' : w.cell? ⟨g', 1, none⟩ = some (.int .u8 (48 + q'))) :
    Calls Try.prog 5 #[.slice (some ⟨g, 0, none⟩) 2 cap, .slice (some ⟨g', 0, none⟩) 2 cap'] w fun e w' => e = .returned (.int .i64 (cmp2 p q p' q')) ∧ ∃ k, w' = w.drewN k := by
  have hcell : ∀ j, j < 2 → w.cell? ⟨g, j, none⟩ = some (.int .u8 (48 + (if j = 0 then p else q : Nat))) := fun j hj => by
    rcases (by omega : j = 0 ∨ j = 1) with rfl | rfl
    · exact h0
    · exact h1
  have hcell' : ∀ j, j < 2 → w.cell? ⟨g', j, none⟩ = some (.int .u8 (48 + (if j = 0 then p' else q' : Nat))) := fun j hj => by
    rcases (by omega : j = 0 ∨ j = 1) with rfl | rfl
    · exact h0'
    · exact h1'
  have HX := hide hcell
  have HX' := hide hcell'
  clear h0 h1 h0' h1' hcell hcell'
  go_enter Try.func5, Try.ntmps5
  go_wp2
  go_loopg [5] 2 (fun k iv wr => ∃ j d : Nat, k = 2 - j ∧ j ≤ 2 ∧ iv = .int .i64 j ∧ wr = w.drewN d ∧ Hid ((0 < j → p = p') ∧ (1 < j → q = q')))
  case atStart => exact ⟨0, 0, rfl, by decide, rfl, rfl, fun h => absurd h (by decide), fun h => absurd h (by decide)⟩
  case round =>
    obtain ⟨j, d, hk, hj, rfl, rfl, HE⟩ := hrel
    have HK := hide hk
    clear hk
    by_cases hlt : j < 2
    · have c := HX.out j hlt
      have c' := HX'.out j hlt
      have hx : (if j = 0 then p else q) < 10 := by split <;> omega
      have hx' : (if j = 0 then p' else q') < 10 := by split <;> omega
      have HC : Hid (((if j = 0 then p else q) < (if j = 0 then p' else q') → cmp2 p q p' q' = -1) ∧ ((if j = 0 then p' else q') < (if j = 0 then p else q) → cmp2 p q p' q' = 1) ∧ ((if j = 0 then p else q) = (if j = 0 then p' else q') → (0 < j + 1 → p = p') ∧ (1 < j + 1 → q = q'))) := by
        obtain ⟨e1, e2⟩ := HE.out
        rcases (by omega : j = 0 ∨ j = 1) with rfl | rfl
        · simp only [if_true]
          refine ⟨fun h => if_pos h, fun h => ?_, fun h => ⟨fun _ => h, fun h => absurd h (by decide)⟩⟩
          unfold cmp2
          rw [if_neg (by omega), if_pos h]
        · have e := e1 (by decide)
          simp only [if_neg (by decide : ¬ (1 : Nat) = 0)]
          refine ⟨fun h => ?_, fun h => ?_, fun h => ⟨fun _ => e, fun _ => h⟩⟩
          · unfold cmp2
            rw [if_neg (by omega), if_neg (by omega), if_pos h]
          · unfold cmp2
            rw [if_neg (by omega), if_neg (by omega), if_neg (by omega), if_pos h]
      generalize (if j = 0 then p else q) = x at c hx HC
      generalize (if j = 0 then p' else q') = x' at c' hx' HC
      clear HX HX' HE
      have hj2 : (j : Int) < 2 := by omega
      go_wp2
      go_quiet (fail)
      rcases (by omega : x < x' ∨ x' < x ∨ x = x') with hlt1 | hlt1 | rfl
      · have l1 : (48 + (x : Int)) < 48 + (x' : Int) := by omega
        go_wp2
        go_ret
        exact ⟨congrArg (fun z => Ending.returned (Value.int .i64 z)) (HC.out.1 hlt1).symm, _, World.drewN_drewN ..⟩
      · have l1 : ¬ (48 + (x : Int)) < 48 + (x' : Int) := by omega
        have l2 : (48 + (x' : Int)) < 48 + (x : Int) := by omega
        go_wp2
        go_quiet (fail)
        go_wp2
        go_ret
        exact ⟨congrArg (fun z => Ending.returned (Value.int .i64 z)) (HC.out.2.1 hlt1).symm, _, World.drewN_drewN ..⟩
      · have HR := hide (HC.out.2.2 rfl)
        clear HC
        go_wp2
        go_quiet (fail)
        go_wp2
        go_roundg (2 - (j + 1))
        case measure => rw [HK.out]; omega
        case rel => exact ⟨j + 1, _, rfl, by omega, by go_num, rfl, HR.out⟩
    · obtain rfl : j = 2 := by omega
      obtain ⟨rfl, rfl⟩ : p = p' ∧ q = q' := ⟨HE.out.1 (by decide), HE.out.2 (by decide)⟩
      clear HX HX' HE HK
      go_wp2
      go_ret
      exact ⟨by simp [cmp2], _, rfl⟩

end Go.Proofs.Qxb6614720a
