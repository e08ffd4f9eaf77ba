/-
  THE LAW FnForfeitTakesOutTheHoldersSharesAlone: its walk.
-/
import Derived.Test.Qxb6615855aFmtPick
namespace Go.Proofs.Qxb6615855aFmt
open Go.RowKit

set_option maxRecDepth 100000 in
set_option maxHeartbeats 8000000 in
theorem takes_any (F : Go.Stop.Interp) (bt : Bool) (st : Int) (a : Option Addr) (n c b off : Nat) (zs : List Int) (a' : Option Addr) (m c' b' off' : Nat) (S : Nat → ByteArray) (i : Int) (w : World) (hF : F.answers w.tape) (hnm : n ≤ maxLen) (hmm : m ≤ maxLen)
    (hA : At w a n b off (fun j => .int .i64 (zs.getD j 0))) (ha : a = none → n = 0) (hbd : ∀ j, j < n → zs.getD j 0 ≤ top) (hA' : At w a' m b' off' (fun j => .string (S j))) (hS : ∀ j, j < m → (S j).size ≤ maxLen) :
    Calls Tryf.prog 5 #[.bool bt, .int .i64 st, .slice a n c, .slice a' m c', .int .i64 i] w fun e w' => e = .returned (.bool true) ∧ Below w.heap.size w w' := by
  have HB := hide (bytes17_any bt st a n c a' m c' b' off' S i w hnm hmm hA' hS)
  have HBD := hide hbd
  have HS := hide hS
  have HA := hide ha
  clear hbd hS ha
  unfold maxLen at hnm hmm HS
  go_enter Tryf.func5, Tryf.ntmps5
  go_wp2_with fail
  refine HB.out.mono ?_
  rintro e w0 ⟨⟨r, rfl, _⟩, rfl⟩
  clear HB
  cases r with
  | false =>
    go_wp2
    go_ret
    exact ⟨rfl, Below.refl _ _⟩
  | true =>
  by_cases h1 : 65536 < n
  · go_wp2
    go_ret
    exact ⟨rfl, Below.refl _ _⟩
  by_cases h2 : 65536 < m
  · go_wp2
    go_ret
    exact ⟨rfl, Below.refl _ _⟩
  go_wp2
  go_loopg [11, 12] m (fun k z iv wr => w0 = wr ∧ ∃ q x : Nat, k = m - q ∧ q ≤ m ∧ iv = .int .i64 q ∧ z = .int .i64 x ∧ x ≤ 1048576)
  case atStart => exact ⟨rfl, 0, 8 * n, rfl, Nat.zero_le _, rfl, by go_num, by omega⟩
  case round =>
    obtain ⟨rfl, q, x, hk, hq, rfl, rfl, hx⟩ := hrel
    have HK := hide hk
    clear hk
    by_cases hlt : q < m
    · obtain rfl := hA'.1 (by omega)
      have ct := hA'.2 q hlt
      simp only [] at ct
      have hsz := HS.out q hlt
      clear hA HS hA'
      generalize S q = s at *
      by_cases c1 : 1048576 < s.size
      · go_wp2
        go_ret
        exact ⟨rfl, Below.refl _ _⟩
      by_cases c2 : 1048576 < x + (16 + s.size)
      · go_wp2
        go_ret
        exact ⟨rfl, Below.refl _ _⟩
      · go_wp2
        go_roundg (m - (q + 1))
        case measure => rw [HK.out]; omega
        case rel => exact ⟨rfl, q + 1, x + (16 + s.size), rfl, by omega, by go_num, by go_num, by omega⟩
    · clear HK HS
      have HR := hide (inRange_any bt st n m i w0)
      go_wp2_with fail
      refine HR.out.mono ?_
      rintro e w1 ⟨⟨r, rfl, hr⟩, hw⟩
      obtain rfl := hw
      clear HR
      cases r with
      | false =>
        go_wp2
        go_ret
        exact ⟨rfl, Below.refl _ _⟩
      | true =>
      have HIR := hide hr
      clear hr
      have HNN := hide (allNN_any a n c b off zs w1 (by omega) hA)
      have HCL := hide (clone_any a n c b off zs w1 (by omega) hA HA.out)
      have hm0 : 0 < m := by have := HIR.out rfl; omega
      obtain rfl := hA'.1 hm0
      have hbl' : b' < w1.heap.size := hA'.lt hm0
      have HAS := hide hA'.2
      clear hA hA'
      cases bt with
      | true =>
        go_wp2_with fail
        refine HNN.out.mono ?_
        rintro e w2 ⟨⟨r, rfl, hr⟩, hw⟩
        obtain rfl := hw.symm
        clear hw
        cases r with
        | false =>
          go_wp2
          go_ret
          exact ⟨rfl, Below.refl _ _⟩
        | true =>
        have HSTR := hide (str_of (zs := zs) HIR.out rfl (by omega) (fun _ => hr rfl) HBD.out)
        clear hr
        clear HNN
        obtain ⟨st', i', lo, rfl, rfl, him, hStr⟩ := HSTR.out
        have him' : i' < m := by omega
        have HSTR := hide hStr
        clear hStr
        go_wp2_with fail
        refine HCL.out.mono ?_
        rintro e w2 ⟨a1, rfl, ha1, hO1, hb1⟩
        clear HCL
        have hG1 : 0 < n → w1.heap.size < w2.heap.size := hO1.lt
        have HA1 := hide ha1
        clear ha1
        have HCS := hide (cloneStr_any m c' b' off' S w2 (by omega) hm0 (fun j hj => (hb1.cell (p := ⟨b', off' + j, none⟩) hbl').trans (HAS.out j hj)))
        go_wp2_with fail
        refine HCS.out.mono ?_
        rintro e w3 ⟨rfl, hD, hb2⟩
        clear HCS
        have hO1' : Ow w3 a1 n w1.heap.size zs := hO1.keep hb2 hG1
        have hb2' : Below w1.heap.size w1 w3 := hb1.trans (hb2.mono hb1.size)
        have hG1' : 0 < n → w1.heap.size < w3.heap.size := fun h => Nat.lt_of_lt_of_le (hG1 h) hb2.size
        have HCW := hide (clone_any a1 n n w1.heap.size 0 zs w3 (by omega) hO1'.at HA1.out)
        clear hO1 hb1 hb2 hG1
        go_wp2_with fail
        refine HCW.out.mono ?_
        rintro e w4 ⟨a2, rfl, ha2, hO2, hb3⟩
        clear HCW ha2
        have hG2 : 0 < n → w3.heap.size < w4.heap.size := hO2.lt
        have hO14 : Ow w4 a1 n w1.heap.size zs := hO1'.keep hb3 hG1'
        have hD4 := hD.of_block (hb3.block _ hD.lt)
        have hb4 : Below w1.heap.size w1 w4 := hb2'.trans (hb3.mono hb2'.size)
        have HNF := hide (newFol_at true st' a2 n n w2.heap.size m S w4 (by omega) hD4)
        clear hO1' hb2' hD hb3 hD4
        go_wp2_with fail
        refine HNF.out.mono ?_
        rintro e w5 ⟨Q, H, rfl, hFo, hb5⟩
        clear HNF
        have hO15 : Ow w5 a1 n w1.heap.size zs := hO14.keep hb5 hO14.lt
        have hO25 : Ow w5 a2 n w3.heap.size zs := hO2.keep hb5 hO2.lt
        have hb5' : Below w1.heap.size w1 w5 := hb4.trans (hb5.mono hb4.size)
        have hA5 : F.answers w5.tape := by rw [hb5'.tape]; exact hF
        clear hO14 hO2 hb4 hb5 hG2
        generalize hg2 : w3.heap.size = G2 at *
        generalize hg1 : w1.heap.size = G1 at *
        have HG1 := hide hg1
        clear hg1 hg2
        have hlo := HSTR.out.hlo
        have hle := HSTR.out.hle
        obtain ⟨G, hOG, hQG, hHG, hBG, hGG⟩ := pick_row (B := G1) hFo hO25 (by have := hb5'.size; have := HG1.out; omega) (fun h => by have := hG1' h; omega)
        have HF := hide (zzforfeit_any F true Q H m n lo st' i' G a2 zs w5 hA5 him' HSTR.out hOG hFo)
        go_wp2_with fail
        refine HF.out.mono ?_
        rintro e w6 ⟨⟨er, rfl, he⟩, hbut, hO26⟩
        clear HF
        have hO16 : Ow w6 a1 n G1 zs := hO15.but hbut (fun h => by have := hG1' h; have := hGG h; omega)
        have hFo6 := hFo.but hbut hQG hHG
        have HB6 : Hid (Below w1.heap.size w1 w6) := by rw [HG1.out]; exact hb5'.trans (hbut.below (by have := hb5'.size; have := HG1.out; omega) hBG)
        clear hO15 hO25 hOG hFo hb5' hbut hA5 hQG hHG hBG hGG
        have HEX := hide (expected_any true st' lo i' n G1 a1 zs w6 HSTR.out hO16)
        go_wp2_with fail
        refine HEX.out.mono ?_
        rintro e w7 ⟨rfl, hw⟩
        obtain rfl := hw.symm
        clear hw HEX
        have HZS := hide (zzshares_any true Q H m n n st' a2 w6 hFo6)
        have HNO := hide (@left_no true zs lo st')
        generalize leftV true zs lo st' = v at *
        generalize leftOk true zs lo st' = ok at *
        go_wp2_with fail
        refine HZS.out.mono ?_
        rintro e w7 ⟨rfl, hw⟩
        obtain rfl := hw.symm
        clear hw HZS hFo6
        have hrefl : ((n : Int) != (n : Int)) = false := by simp
        go_wp2
        go_loopg [22] n (fun k iv wr => w6 = wr ∧ ∃ y : Nat, k = n - y ∧ y ≤ n ∧ iv = .int .i64 y)
        case atStart => exact ⟨rfl, 0, rfl, Nat.zero_le _, rfl⟩
        case round =>
          clear hq hx hlt hlo
          obtain ⟨rfl, y, hk, hy, rfl⟩ := hrel
          have HK := hide hk
          clear hk
          by_cases hlt : y < n
          · obtain ⟨rfl, hr1⟩ := hO16 (by omega)
            obtain ⟨rfl, hr2⟩ := hO26 (by omega)
            have c1 := hr1.cell hlt
            have c2 := hr2.cell hlt
            simp only [cleared_get hlt] at c2
            clear hO16 hO26 hr1 hr2
            generalize zs.getD y 0 = z at c1 c2
            have hzz : (z != z) = false := by simp
            have hyn : (y : Int) < (n : Int) := by omega
            by_cases y1 : y < lo
            · rw [if_neg (by omega)] at c2
              go_wp2
              go_roundg (n - (y + 1))
              case measure => rw [HK.out]; omega
              case rel => exact ⟨rfl, y + 1, rfl, by omega, by go_num⟩
            by_cases y2 : y < lo + st'
            · rw [if_pos (by omega)] at c2
              have y2' : (y : Int) < (lo : Int) + (st' : Int) := by omega
              go_wp2
              go_roundg (n - (y + 1))
              case measure => rw [HK.out]; omega
              case rel => exact ⟨rfl, y + 1, rfl, by omega, by go_num⟩
            · rw [if_neg (by omega)] at c2
              have y2' : ¬ (y : Int) < (lo : Int) + (st' : Int) := by omega
              go_wp2
              go_roundg (n - (y + 1))
              case measure => rw [HK.out]; omega
              case rel => exact ⟨rfl, y + 1, rfl, by omega, by go_num⟩
          · clear hO16 hO26 HK
            cases ok with
            | true =>
              obtain rfl := he.yes rfl
              clear he HNO
              go_wp2
              go_ret
              exact ⟨rfl, HB6.out⟩
            | false =>
              obtain ⟨pe, rfl⟩ := he.no rfl
              obtain rfl := HNO.out rfl
              clear he HNO
              go_wp2
              go_ret
              exact ⟨rfl, HB6.out⟩
      | false =>
        have HSTR := hide (str_of (zs := zs) HIR.out rfl (by omega) (fun h => by cases h) HBD.out)
        clear HNN
        obtain ⟨st', i', lo, rfl, rfl, him, hStr⟩ := HSTR.out
        have him' : i' < m := by omega
        have HSTR := hide hStr
        clear hStr
        go_wp2_with fail
        refine HCL.out.mono ?_
        rintro e w2 ⟨a1, rfl, ha1, hO1, hb1⟩
        clear HCL
        have hG1 : 0 < n → w1.heap.size < w2.heap.size := hO1.lt
        have HA1 := hide ha1
        clear ha1
        have HCS := hide (cloneStr_any m c' b' off' S w2 (by omega) hm0 (fun j hj => (hb1.cell (p := ⟨b', off' + j, none⟩) hbl').trans (HAS.out j hj)))
        go_wp2_with fail
        refine HCS.out.mono ?_
        rintro e w3 ⟨rfl, hD, hb2⟩
        clear HCS
        have hO1' : Ow w3 a1 n w1.heap.size zs := hO1.keep hb2 hG1
        have hb2' : Below w1.heap.size w1 w3 := hb1.trans (hb2.mono hb1.size)
        have hG1' : 0 < n → w1.heap.size < w3.heap.size := fun h => Nat.lt_of_lt_of_le (hG1 h) hb2.size
        have HCW := hide (clone_any a1 n n w1.heap.size 0 zs w3 (by omega) hO1'.at HA1.out)
        clear hO1 hb1 hb2 hG1
        go_wp2_with fail
        refine HCW.out.mono ?_
        rintro e w4 ⟨a2, rfl, ha2, hO2, hb3⟩
        clear HCW ha2
        have hG2 : 0 < n → w3.heap.size < w4.heap.size := hO2.lt
        have hO14 : Ow w4 a1 n w1.heap.size zs := hO1'.keep hb3 hG1'
        have hD4 := hD.of_block (hb3.block _ hD.lt)
        have hb4 : Below w1.heap.size w1 w4 := hb2'.trans (hb3.mono hb2'.size)
        have HNF := hide (newFol_at false st' a2 n n w2.heap.size m S w4 (by omega) hD4)
        clear hO1' hb2' hD hb3 hD4
        go_wp2_with fail
        refine HNF.out.mono ?_
        rintro e w5 ⟨Q, H, rfl, hFo, hb5⟩
        clear HNF
        have hO15 : Ow w5 a1 n w1.heap.size zs := hO14.keep hb5 hO14.lt
        have hO25 : Ow w5 a2 n w3.heap.size zs := hO2.keep hb5 hO2.lt
        have hb5' : Below w1.heap.size w1 w5 := hb4.trans (hb5.mono hb4.size)
        have hA5 : F.answers w5.tape := by rw [hb5'.tape]; exact hF
        clear hO14 hO2 hb4 hb5 hG2
        generalize hg2 : w3.heap.size = G2 at *
        generalize hg1 : w1.heap.size = G1 at *
        have HG1 := hide hg1
        clear hg1 hg2
        have hlo := HSTR.out.hlo
        have hle := HSTR.out.hle
        obtain ⟨G, hOG, hQG, hHG, hBG, hGG⟩ := pick_row (B := G1) hFo hO25 (by have := hb5'.size; have := HG1.out; omega) (fun h => by have := hG1' h; omega)
        have HF := hide (zzforfeit_any F false Q H m n lo st' i' G a2 zs w5 hA5 him' HSTR.out hOG hFo)
        go_wp2_with fail
        refine HF.out.mono ?_
        rintro e w6 ⟨⟨er, rfl, he⟩, hbut, hO26⟩
        clear HF
        have hO16 : Ow w6 a1 n G1 zs := hO15.but hbut (fun h => by have := hG1' h; have := hGG h; omega)
        have hFo6 := hFo.but hbut hQG hHG
        have HB6 : Hid (Below w1.heap.size w1 w6) := by rw [HG1.out]; exact hb5'.trans (hbut.below (by have := hb5'.size; have := HG1.out; omega) hBG)
        clear hO15 hO25 hOG hFo hb5' hbut hA5 hQG hHG hBG hGG
        have HEX := hide (expected_any false st' lo i' n G1 a1 zs w6 HSTR.out hO16)
        go_wp2_with fail
        refine HEX.out.mono ?_
        rintro e w7 ⟨rfl, hw⟩
        obtain rfl := hw.symm
        clear hw HEX
        have HZS := hide (zzshares_any false Q H m n n st' a2 w6 hFo6)
        have HNO := hide (@left_no false zs lo st')
        generalize leftV false zs lo st' = v at *
        generalize leftOk false zs lo st' = ok at *
        go_wp2_with fail
        refine HZS.out.mono ?_
        rintro e w7 ⟨rfl, hw⟩
        obtain rfl := hw.symm
        clear hw HZS hFo6
        have hrefl : ((n : Int) != (n : Int)) = false := by simp
        go_wp2
        go_loopg [22] n (fun k iv wr => w6 = wr ∧ ∃ y : Nat, k = n - y ∧ y ≤ n ∧ iv = .int .i64 y)
        case atStart => exact ⟨rfl, 0, rfl, Nat.zero_le _, rfl⟩
        case round =>
          clear hq hx hlt hlo
          obtain ⟨rfl, y, hk, hy, rfl⟩ := hrel
          have HK := hide hk
          clear hk
          by_cases hlt : y < n
          · obtain ⟨rfl, hr1⟩ := hO16 (by omega)
            obtain ⟨rfl, hr2⟩ := hO26 (by omega)
            have c1 := hr1.cell hlt
            have c2 := hr2.cell hlt
            simp only [cleared_get hlt] at c2
            clear hO16 hO26 hr1 hr2
            generalize zs.getD y 0 = z at c1 c2
            have hzz : (z != z) = false := by simp
            have hyn : (y : Int) < (n : Int) := by omega
            by_cases y1 : y < lo
            · rw [if_neg (by omega)] at c2
              go_wp2
              go_roundg (n - (y + 1))
              case measure => rw [HK.out]; omega
              case rel => exact ⟨rfl, y + 1, rfl, by omega, by go_num⟩
            by_cases y2 : y < lo + st'
            · rw [if_pos (by omega)] at c2
              have y2' : (y : Int) < (lo : Int) + (st' : Int) := by omega
              go_wp2
              go_roundg (n - (y + 1))
              case measure => rw [HK.out]; omega
              case rel => exact ⟨rfl, y + 1, rfl, by omega, by go_num⟩
            · rw [if_neg (by omega)] at c2
              have y2' : ¬ (y : Int) < (lo : Int) + (st' : Int) := by omega
              go_wp2
              go_roundg (n - (y + 1))
              case measure => rw [HK.out]; omega
              case rel => exact ⟨rfl, y + 1, rfl, by omega, by go_num⟩
          · clear hO16 hO26 HK
            cases ok with
            | true =>
              obtain rfl := he.yes rfl
              clear he HNO
              go_wp2
              go_ret
              exact ⟨rfl, HB6.out⟩
            | false =>
              obtain ⟨pe, rfl⟩ := he.no rfl
              obtain rfl := HNO.out rfl
              clear he HNO
              go_wp2
              go_ret
              exact ⟨rfl, HB6.out⟩

end Go.Proofs.Qxb6615855aFmt
