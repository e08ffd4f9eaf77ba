/-
  The law's walk: two numbers from 0 to 99.
-/
import Derived.Test.Qxb6614720aDigits
import Derived.Deep.RegionWith
namespace Go.Proofs.Qxb6614720a
open Go.RowKit

theorem below_drewN {B : Nat} {a w : World} (h : Below B a w) (n : Nat) : Below B a (w.drewN n) := ⟨h.os, h.tape, h.output, h.size, h.block⟩

/-- How two numbers of two digits compare. -/
def ord (a b : Int) : Int := if a < b then -1 else if b < a then 1 else 0

theorem cmp2_ord (a b : Int) (p q p' q' : Nat) (hq : q < 10) (hq' : q' < 10) (ha : a = 10 * (p : Int) + (q : Int)) (hb : b = 10 * (p' : Int) + (q' : Int)) : cmp2 p q p' q' = ord a b := by
  unfold cmp2 ord
  subst ha hb
  repeat' split
  all_goals first | rfl | omega

theorem digits (n : Int) (h0 : 0 ≤ n) (h1 : n ≤ 99) : ∃ p q : Nat, p < 10 ∧ q < 10 ∧ n.tdiv 10 = p ∧ n.tmod 10 = q ∧ n = 10 * (p : Int) + (q : Int) := by
  refine ⟨(n / 10).toNat, (n % 10).toNat, by omega, by omega, ?_, ?_, by omega⟩
  · rw [Int.tdiv_eq_ediv_of_nonneg h0]; omega
  · rw [Int.tmod_eq_emod_of_nonneg h0]; omega

theorem law_in (a b : Int) (ha0 : 0 ≤ a) (ha1 : a ≤ 99) (hb0 : 0 ≤ b) (hb1 : b ≤ 99) (w : World) :
    Calls Try.prog 3 #[.int .i64 a, .int .i64 b] w fun e w' => e = .returned (.bool true) ∧ Below w.heap.size w w' := by
  obtain ⟨p, q, hp, hq, hd, hm, he⟩ := digits a ha0 ha1
  obtain ⟨p', q', hp', hq', hd', hm', he'⟩ := digits b hb0 hb1
  have HO := hide (cmp2_ord a b p q p' q' hq hq' he he')
  have HA := hide (zz_two_any a p q hp hq hd hm w)
  have HD := hide (And.intro hd' hm')
  have HE := hide (And.intro he he')
  clear hd hm hd' hm' he he'
  go_enter Try.func3, Try.ntmps3
  go_wp2_with fail
  refine HA.out.mono ?_
  rintro e w1 ⟨g, cap, rfl, hg, hlt, h0, h1, hB⟩
  have HX := hide (And.intro h0 h1)
  have HB1 := hide hB
  have HA' := hide (zz_two_any b p' q' hp' hq' HD.out.1 HD.out.2 w1)
  clear HA h0 h1 hB
  go_wp2_with fail
  refine HA'.out.mono ?_
  rintro e w2 ⟨g', cap', rfl, hg', hlt', h0', h1', hB'⟩
  have h0 := (hB'.cell (p := ⟨g, 0, none⟩) hlt).trans HX.out.1
  have h1 := (hB'.cell (p := ⟨g, 1, none⟩) hlt).trans HX.out.2
  have HB2 := hide (HB1.out.trans (hB'.mono HB1.out.size))
  have HC := hide (compare_any p q p' q' g cap g' cap' hp hq hp' hq' w2 h0 h1 h0' h1')
  have HV := hide (fun d => value_any a p q g cap hp hq HE.out.1 (w2.drewN d) h0 h1)
  have HV' := hide (fun d => value_any b p' q' g' cap' hp' hq' HE.out.2 (w2.drewN d) h0' h1')
  clear HA' HX HB1 HD h0 h1 h0' h1' hB' hg hlt hg' hlt' HE
  have fin : ∀ d : Nat, Below w.heap.size w (w2.drewN d) := fun d => below_drewN HB2.out d
  have HF := hide fin
  clear fin HB2
  rcases (by omega : a < b ∨ b < a ∨ a = b) with hab | hab | rfl
  · have ho : cmp2 p q p' q' = -1 := HO.out.trans (if_pos hab)
    rw [ho] at HC
    clear HO ho
    go_wp2_with fail
    refine HC.out.mono ?_
    rintro e w3 ⟨rfl, d, rfl⟩
    clear HC
    have HV1 := hide (HV.out d)
    clear HV
    go_wp2_with fail
    refine HV1.out.mono ?_
    rintro e w4 ⟨rfl, d2, rfl⟩
    clear HV1
    have HV2 := hide (HV'.out (d + d2))
    clear HV'
    go_wp2_with fail
    refine HV2.out.mono ?_
    rintro e w5 ⟨rfl, d3, rfl⟩
    clear HV2
    go_wp2
    go_ret
    exact ⟨rfl, HF.out _⟩
  · have ho : cmp2 p q p' q' = 1 := HO.out.trans ((if_neg (by omega)).trans (if_pos hab))
    have hn : ¬ a < b := by omega
    rw [ho] at HC
    clear HO ho
    go_wp2_with fail
    refine HC.out.mono ?_
    rintro e w3 ⟨rfl, d, rfl⟩
    clear HC
    have HV1 := hide (HV.out d)
    clear HV
    go_wp2_with fail
    refine HV1.out.mono ?_
    rintro e w4 ⟨rfl, d2, rfl⟩
    clear HV1
    have HV2 := hide (HV'.out (d + d2))
    clear HV'
    go_wp2_with fail
    refine HV2.out.mono ?_
    rintro e w5 ⟨rfl, d3, rfl⟩
    clear HV2
    go_wp2
    go_ret
    exact ⟨rfl, HF.out _⟩
  · have ho : cmp2 p q p' q' = 0 := HO.out.trans ((if_neg (by omega)).trans (if_neg (by omega)))
    rw [ho] at HC
    clear HO ho
    go_wp2_with fail
    refine HC.out.mono ?_
    rintro e w3 ⟨rfl, d, rfl⟩
    clear HC
    have HV1 := hide (HV.out d)
    clear HV
    go_wp2_with fail
    refine HV1.out.mono ?_
    rintro e w4 ⟨rfl, d2, rfl⟩
    clear HV1
    have HV2 := hide (HV'.out (d + d2))
    clear HV'
    go_wp2_with fail
    refine HV2.out.mono ?_
    rintro e w5 ⟨rfl, d3, rfl⟩
    clear HV2
    go_wp2
    go_ret
    exact ⟨rfl, HF.out _⟩

theorem law_out (a b : Int) (h : a < 0 ∨ 99 < a ∨ b < 0 ∨ 99 < b) (w : World) :
    Calls Try.prog 3 #[.int .i64 a, .int .i64 b] w fun e w' => e = .returned (.bool true) ∧ Below w.heap.size w w' := by
  rcases (by omega : a < 0 ∨ (0 ≤ a ∧ 99 < a) ∨ (0 ≤ a ∧ a ≤ 99 ∧ b < 0) ∨ (0 ≤ a ∧ a ≤ 99 ∧ 0 ≤ b ∧ 99 < b)) with h1 | ⟨h1, h2⟩ | ⟨h1, h2, h3⟩ | ⟨h1, h2, h3, h4⟩
  · clear h
    go_enter Try.func3, Try.ntmps3
    go_wp2
    go_ret
    exact ⟨rfl, Below.refl _ _⟩
  · clear h
    go_enter Try.func3, Try.ntmps3
    go_wp2
    go_ret
    exact ⟨rfl, Below.refl _ _⟩
  · clear h
    go_enter Try.func3, Try.ntmps3
    go_wp2
    go_ret
    exact ⟨rfl, Below.refl _ _⟩
  · clear h
    go_enter Try.func3, Try.ntmps3
    go_wp2
    go_ret
    exact ⟨rfl, Below.refl _ _⟩

theorem law_any (a b : Int) (w : World) : Calls Try.prog 3 #[.int .i64 a, .int .i64 b] w fun e w' => e = .returned (.bool true) ∧ Below w.heap.size w w' := by
  by_cases h : ((0 ≤ a ∧ a ≤ 99) ∧ 0 ≤ b) ∧ b ≤ 99
  · exact law_in a b h.1.1.1 h.1.1.2 h.1.2 h.2 w
  · exact law_out a b (by omega) w

end Go.Proofs.Qxb6614720a
