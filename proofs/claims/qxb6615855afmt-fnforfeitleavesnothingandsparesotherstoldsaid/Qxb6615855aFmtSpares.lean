/-
  THE LAW FnForfeitLeavesNothingAndSparesOthers: its walk.
-/
import Derived.Test.Qxb6615855aFmtPick
namespace Go.Proofs.Qxb6615855aFmt
open Go.RowKit

set_option maxRecDepth 100000 in
set_option maxHeartbeats 8000000 in
theorem spares_any (F : Go.Stop.Interp) (bt : Bool) (st : Int) (a : Option Addr) (n c b off : Nat) (zs : List Int) (a' : Option Addr) (m c' b' off' : Nat) (S : Nat → ByteArray) (i j : Int) (w : World) (hF : F.answers w.tape) (hnm : n ≤ maxLen) (hmm : m ≤ maxLen)
    (hA : At w a n b off (fun j => .int .i64 (zs.getD j 0))) (ha : a = none → n = 0) (hbd : ∀ j, j < n → zs.getD j 0 ≤ top) (hA' : At w a' m b' off' (fun j => .string (S j))) (hS : ∀ j, j < m → (S j).size ≤ maxLen) :
    Calls Tryf.prog 6 #[.bool bt, .int .i64 st, .slice a n c, .slice a' m c', .int .i64 i, .int .i64 j] w fun e w' => e = .returned (.bool true) ∧ Below w.heap.size w w' := by
  have HB := hide (bytes19_any bt st a n c a' m c' b' off' S i j w hnm hmm hA' hS)
  have HBD := hide hbd
  have HS := hide hS
  have HA := hide ha
  clear hbd hS ha
  unfold maxLen at hnm hmm HS
  go_enter Tryf.func6, Tryf.ntmps6
  go_wp2_with fail
  refine HB.out.mono ?_
  rintro e w0 ⟨⟨r, rfl, _⟩, rfl⟩
  clear HB
  cases r with
  | false =>
    go_wp2
    go_ret
    exact ⟨rfl, Below.refl _ _⟩
  | true =>
  by_cases h1 : 65536 < n
  · go_wp2
    go_ret
    exact ⟨rfl, Below.refl _ _⟩
  by_cases h2 : 65536 < m
  · go_wp2
    go_ret
    exact ⟨rfl, Below.refl _ _⟩
  go_wp2
  go_loopg [13, 14] m (fun k z iv wr => w0 = wr ∧ ∃ q x : Nat, k = m - q ∧ q ≤ m ∧ iv = .int .i64 q ∧ z = .int .i64 x ∧ x ≤ 1048576)
  case atStart => exact ⟨rfl, 0, 8 * n, rfl, Nat.zero_le _, rfl, by go_num, by omega⟩
  case round =>
    obtain ⟨rfl, q, x, hk, hq, rfl, rfl, hx⟩ := hrel
    have HK := hide hk
    clear hk
    by_cases hlt : q < m
    · obtain rfl := hA'.1 (by omega)
      have ct := hA'.2 q hlt
      simp only [] at ct
      have hsz := HS.out q hlt
      clear hA HS hA'
      generalize S q = s at *
      by_cases c1 : 1048576 < s.size
      · go_wp2
        go_ret
        exact ⟨rfl, Below.refl _ _⟩
      by_cases c2 : 1048576 < x + (16 + s.size)
      · go_wp2
        go_ret
        exact ⟨rfl, Below.refl _ _⟩
      · go_wp2
        go_roundg (m - (q + 1))
        case measure => rw [HK.out]; omega
        case rel => exact ⟨rfl, q + 1, x + (16 + s.size), rfl, by omega, by go_num, by go_num, by omega⟩
    · clear HK HS
      have HR := hide (inRange_any bt st n m i w0)
      go_wp2_with fail
      refine HR.out.mono ?_
      rintro e w1 ⟨⟨r, rfl, hr⟩, hw⟩
      obtain rfl := hw
      clear HR
      cases r with
      | false =>
        go_wp2
        go_ret
        exact ⟨rfl, Below.refl _ _⟩
      | true =>
      have HIR := hide hr
      clear hr
      have HR2 := hide (inRange_any bt st n m j w1)
      go_wp2_with fail
      refine HR2.out.mono ?_
      rintro e w2 ⟨⟨r, rfl, hr⟩, hw⟩
      obtain rfl := hw.symm
      clear HR2 hw
      cases r with
      | false =>
        go_wp2
        go_ret
        exact ⟨rfl, Below.refl _ _⟩
      | true =>
      have HIR2 := hide hr
      clear hr
      have HNN := hide (allNN_any a n c b off zs w1 (by omega) hA)
      have HCL := hide (clone_any a n c b off zs w1 (by omega) hA HA.out)
      have hm0 : 0 < m := by have := HIR.out rfl; omega
      obtain rfl := hA'.1 hm0
      have hbl' : b' < w1.heap.size := hA'.lt hm0
      have HAS := hide hA'.2
      clear hA hA'
      cases bt with
      | true =>
        go_wp2_with fail
        refine HNN.out.mono ?_
        rintro e w2 ⟨⟨r, rfl, hr⟩, hw⟩
        obtain rfl := hw.symm
        clear hw
        cases r with
        | false =>
          go_wp2
          go_ret
          exact ⟨rfl, Below.refl _ _⟩
        | true =>
        have HSTR := hide (str_of (zs := zs) HIR.out rfl (by omega) (fun _ => hr rfl) HBD.out)
        have HSTR2 := hide (str_of (zs := zs) HIR2.out rfl (by omega) (fun _ => hr rfl) HBD.out)
        clear hr
        clear HNN
        obtain ⟨st', i', lo, rfl, rfl, him, hStr⟩ := HSTR.out
        have him' : i' < m := by omega
        have HSTR := hide hStr
        clear hStr
        obtain ⟨st2, j', lo2, hst2, rfl, hjm, hStr2⟩ := HSTR2.out
        obtain rfl : st' = st2 := by omega
        have hjm' : j' < m := by omega
        have HSTR' := hide hStr2
        clear hst2 hStr2
        go_wp2_with fail
        refine HCL.out.mono ?_
        rintro e w2 ⟨a1, rfl, ha1, hO1, hb1⟩
        clear HCL
        have hG1 : 0 < n → w1.heap.size < w2.heap.size := hO1.lt
        have HA1 := hide ha1
        clear ha1
        have HCS := hide (cloneStr_any m c' b' off' S w2 (by omega) hm0 (fun j hj => (hb1.cell (p := ⟨b', off' + j, none⟩) hbl').trans (HAS.out j hj)))
        go_wp2_with fail
        refine HCS.out.mono ?_
        rintro e w3 ⟨rfl, hD, hb2⟩
        clear HCS
        have hO1' : Ow w3 a1 n w1.heap.size zs := hO1.keep hb2 hG1
        have hb2' : Below w1.heap.size w1 w3 := hb1.trans (hb2.mono hb1.size)
        have hG1' : 0 < n → w1.heap.size < w3.heap.size := fun h => Nat.lt_of_lt_of_le (hG1 h) hb2.size
        have HCW := hide (clone_any a1 n n w1.heap.size 0 zs w3 (by omega) hO1'.at HA1.out)
        clear hO1 hb1 hb2 hG1
        go_wp2_with fail
        refine HCW.out.mono ?_
        rintro e w4 ⟨a2, rfl, ha2, hO2, hb3⟩
        clear HCW ha2
        have hG2 : 0 < n → w3.heap.size < w4.heap.size := hO2.lt
        have hO14 : Ow w4 a1 n w1.heap.size zs := hO1'.keep hb3 hG1'
        have hD4 := hD.of_block (hb3.block _ hD.lt)
        have hb4 : Below w1.heap.size w1 w4 := hb2'.trans (hb3.mono hb2'.size)
        have HNF := hide (newFol_at true st' a2 n n w2.heap.size m S w4 (by omega) hD4)
        clear hO1' hb2' hD hb3 hD4
        go_wp2_with fail
        refine HNF.out.mono ?_
        rintro e w5 ⟨Q, H, rfl, hFo, hb5⟩
        clear HNF
        have hO15 : Ow w5 a1 n w1.heap.size zs := hO14.keep hb5 hO14.lt
        have hO25 : Ow w5 a2 n w3.heap.size zs := hO2.keep hb5 hO2.lt
        have hb5' : Below w1.heap.size w1 w5 := hb4.trans (hb5.mono hb4.size)
        have hA5 : F.answers w5.tape := by rw [hb5'.tape]; exact hF
        clear hO14 hO2 hb4 hb5 hG2
        generalize hg2 : w3.heap.size = G2 at *
        generalize hg1 : w1.heap.size = G1 at *
        have HG1 := hide hg1
        clear hg1 hg2
        have hlo := HSTR.out.hlo
        have hle := HSTR.out.hle
        obtain ⟨G, hOG, hQG, hHG, hBG, hGG⟩ := pick_row (B := G1) hFo hO25 (by have := hb5'.size; have := HG1.out; omega) (fun h => by have := hG1' h; omega)
        clear hO15 hO25 hGG hG1'
        have HL1 := hide (zzleft_any F true Q H m n lo st' i' G a2 zs w5 hA5 him' HSTR.out hOG hFo)
        go_wp2_with fail
        refine HL1.out.mono ?_
        rintro e w6 ⟨⟨er1, rfl, he1⟩, hb6⟩
        clear HL1
        have hO6 := hOG.keep hb6 hOG.lt
        have hFo6 := hFo.keep hb6 hFo.Qlt hFo.Hlt
        have hA6 : F.answers w6.tape := by rw [hb6.tape]; exact hA5
        have hb6' : Below G1 w1 w6 := hb5'.trans (hb6.mono (by have := hb5'.size; have := HG1.out; omega))
        clear hOG hFo hA5 hb5' hb6
        have HL2 := hide (zzleft_any F true Q H m n lo2 st' j' G a2 zs w6 hA6 hjm' HSTR'.out hO6 hFo6)
        go_wp2_with fail
        refine HL2.out.mono ?_
        rintro e w7 ⟨⟨er2, rfl, he2⟩, hb7⟩
        clear HL2
        have hO7 := hO6.keep hb7 hO6.lt
        have hFo7 := hFo6.keep hb7 hFo6.Qlt hFo6.Hlt
        have hA7 : F.answers w7.tape := by rw [hb7.tape]; exact hA6
        have hb7' : Below G1 w1 w7 := hb6'.trans (hb7.mono (by have := hb6'.size; have := HG1.out; omega))
        clear hO6 hFo6 hA6 hb6' hb7
        have HF1 := hide (zzforfeit_any F true Q H m n lo st' i' G a2 zs w7 hA7 him' HSTR.out hO7 hFo7)
        go_wp2_with fail
        refine HF1.out.mono ?_
        rintro e w8 ⟨⟨er3, rfl, he3⟩, hbut8, hO8⟩
        clear HF1
        have hFo8 := hFo7.but hbut8 hQG hHG
        have hA8 : F.answers w8.tape := by rw [hbut8.tape]; exact hA7
        have hb8' : Below G1 w1 w8 := hb7'.trans (hbut8.below (by have := hb7'.size; have := HG1.out; omega) hBG)
        clear hO7 hFo7 hA7 hb7' hbut8
        have HL3 := hide (zzleft_any F true Q H m n lo st' i' G a2 (cleared n zs lo st') w8 hA8 him' (HSTR.out.clear lo st') hO8 hFo8)
        rw [(left_cleared HSTR.out).1, (left_cleared HSTR.out).2] at HL3
        go_wp2_with fail
        refine HL3.out.mono ?_
        rintro e w9 ⟨⟨er4, rfl, he4⟩, hb9⟩
        obtain rfl := he4.yes rfl
        clear HL3 he4
        have hO9 := hO8.keep hb9 hO8.lt
        have hFo9 := hFo8.keep hb9 hFo8.Qlt hFo8.Hlt
        have hA9 : F.answers w9.tape := by rw [hb9.tape]; exact hA8
        have hb9' : Below G1 w1 w9 := hb8'.trans (hb9.mono (by have := hb8'.size; have := HG1.out; omega))
        clear hO8 hFo8 hA8 hb8' hb9
        have HF2 := hide (zzforfeit_any F true Q H m n lo st' i' G a2 (cleared n zs lo st') w9 hA9 him' (HSTR.out.clear lo st') hO9 hFo9)
        rw [(left_cleared HSTR.out).1, (left_cleared HSTR.out).2] at HF2
        go_wp2_with fail
        refine HF2.out.mono ?_
        rintro e wA ⟨⟨er5, rfl, he5⟩, hbutA, hOA⟩
        obtain rfl := he5.yes rfl
        clear HF2 he5
        have hFoA := hFo9.but hbutA hQG hHG
        have hAA : F.answers wA.tape := by rw [hbutA.tape]; exact hA9
        have hbA' : Below G1 w1 wA := hb9'.trans (hbutA.below (by have := hb9'.size; have := HG1.out; omega) hBG)
        clear hO9 hFo9 hA9 hb9' hbutA
        have HL4 := hide (zzleft_any F true Q H m n lo2 st' j' G a2 (cleared n (cleared n zs lo st') lo st') wA hAA hjm' ((HSTR'.out.clear lo st').clear lo st') hOA hFoA)
        go_wp2_with fail
        refine HL4.out.mono ?_
        rintro e wB ⟨⟨er6, rfl, he6⟩, hbB⟩
        clear HL4
        have hOB := hOA.keep hbB hOA.lt
        have hFoB := hFoA.keep hbB hFoA.Qlt hFoA.Hlt
        have HBB : Hid (Below w1.heap.size w1 wB) := by rw [HG1.out]; exact hbA'.trans (hbB.mono (by have := hbA'.size; have := HG1.out; omega))
        have HZS : Hid (∀ d, Calls Tryf.prog 15 #[.pointer (some ⟨Q, 0, none⟩)] (wB.drewN d) fun e w' => e = .returned (.slice a2 n n) ∧ w' = wB.drewN d) := fun d => zzshares_any true Q H m n n st' a2 _ (hFoB.drewN d)
        have HRW : Hid (∀ y, y < st' → a2 = some ⟨G, 0, none⟩ ∧ wB.cell? ⟨G, lo + y, none⟩ = some (.int .i64 0)) := fun y hy => by
          obtain ⟨ha, hr⟩ := hOB (by omega)
          refine ⟨ha, ?_⟩
          rw [hr.cell (show lo + y < n by omega)]
          show some (Value.int .i64 _) = _
          rw [cleared_get (by omega), if_pos (by omega)]
        clear hOA hFoA hAA hbA' hbB hOB hFoB hQG hHG hBG
        have hJ : (i' = j' ∧ leftV true (cleared n (cleared n zs lo st') lo st') lo2 st' = 0 ∧ leftOk true (cleared n (cleared n zs lo st') lo st') lo2 st' = true) ∨ (i' ≠ j' ∧ leftV true (cleared n (cleared n zs lo st') lo st') lo2 st' = leftV true zs lo2 st' ∧ leftOk true (cleared n (cleared n zs lo st') lo st') lo2 st' = leftOk true zs lo2 st') := by
          by_cases hij : i' = j'
          · subst hij
            have := same_of HSTR.out HSTR'.out
            subst this
            exact .inl ⟨rfl, left_cleared (HSTR.out.clear lo st')⟩
          · exact .inr ⟨hij, left_spared HSTR.out HSTR'.out hij⟩
        generalize leftV true (cleared n (cleared n zs lo st') lo st') lo2 st' = v6 at *
        generalize leftOk true (cleared n (cleared n zs lo st') lo st') lo2 st' = ok6 at *
        generalize leftV true zs lo2 st' = v2 at *
        generalize leftOk true zs lo2 st' = ok2 at *
        generalize leftV true zs lo st' = v1 at *
        generalize leftOk true zs lo st' = ok1 at *
        have hv1 : (v1 != v1) = false := by simp
        have hv2 : (v2 != v2) = false := by simp
        have HJ := hide hJ
        clear hJ
        go_wp2_with fail
        rcases errs_same he1 he3 with ⟨rfl, rfl⟩ | ⟨p1, p3, rfl, rfl⟩
        all_goals
          clear he1 he3
          rcases HJ.out with ⟨hij, rfl, rfl⟩ | ⟨hij, rfl, rfl⟩
          · subst hij
            obtain rfl := he6.yes rfl
            have hii : ((i' : Int) == (i' : Int)) = true := by simp
            clear HJ he6 he2
            go_quiet (fail)
            go_wp2_with fail
            refine (HZS.out _).mono ?_
            rintro e wC ⟨rfl, rfl⟩
            clear HZS
            go_wp2
            go_loopg [31] st' (fun k iv wr => ∃ y d : Nat, k = st' - y ∧ y ≤ st' ∧ iv = .int .i64 ((lo + y : Nat) : Int) ∧ wr = wB.drewN d)
            case atStart => exact ⟨0, _, rfl, Nat.zero_le _, rfl, rfl⟩
            case round =>
              clear hq hx hlt hlo
              obtain ⟨y, d, hk, hy, rfl, rfl⟩ := hrel
              have HK := hide hk
              clear hk
              by_cases hlt : y < st'
              · obtain ⟨rfl, c2⟩ := HRW.out y hlt
                have hyn : ((lo + y : Nat) : Int) < (lo : Int) + (st' : Int) := by omega
                go_wp2
                go_roundg (st' - (y + 1))
                case measure => rw [HK.out]; omega
                case rel => exact ⟨y + 1, d, rfl, by omega, by go_num, rfl⟩
              · have hyn : ¬ ((lo + y : Nat) : Int) < (lo : Int) + (st' : Int) := by omega
                go_wp2
                go_ret
                exact ⟨rfl, below_drewN HBB.out _⟩
          · have hne : ((i' : Int) == (j' : Int)) = false := by rw [beq_eq_false_iff_ne]; omega
            rcases errs_same he2 he6 with ⟨rfl, rfl⟩ | ⟨p2, p6, rfl, rfl⟩
            all_goals
              clear HJ he6 he2
              go_quiet (fail)
              go_wp2
              go_quiet (fail)
              go_wp2_with fail
              refine (HZS.out _).mono ?_
              rintro e wC ⟨rfl, rfl⟩
              clear HZS
              go_wp2
              go_loopg [31] st' (fun k iv wr => ∃ y d : Nat, k = st' - y ∧ y ≤ st' ∧ iv = .int .i64 ((lo + y : Nat) : Int) ∧ wr = wB.drewN d)
              case atStart => exact ⟨0, _, rfl, Nat.zero_le _, rfl, rfl⟩
              case round =>
                clear hq hx hlt hlo
                obtain ⟨y, d, hk, hy, rfl, rfl⟩ := hrel
                have HK := hide hk
                clear hk
                by_cases hlt : y < st'
                · obtain ⟨rfl, c2⟩ := HRW.out y hlt
                  have hyn : ((lo + y : Nat) : Int) < (lo : Int) + (st' : Int) := by omega
                  go_wp2
                  go_roundg (st' - (y + 1))
                  case measure => rw [HK.out]; omega
                  case rel => exact ⟨y + 1, d, rfl, by omega, by go_num, rfl⟩
                · have hyn : ¬ ((lo + y : Nat) : Int) < (lo : Int) + (st' : Int) := by omega
                  go_wp2
                  go_ret
                  exact ⟨rfl, below_drewN HBB.out _⟩
      | false =>
        have HSTR := hide (str_of (zs := zs) HIR.out rfl (by omega) (fun h => by cases h) HBD.out)
        have HSTR2 := hide (str_of (zs := zs) HIR2.out rfl (by omega) (fun h => by cases h) HBD.out)
        clear HNN
        obtain ⟨st', i', lo, rfl, rfl, him, hStr⟩ := HSTR.out
        have him' : i' < m := by omega
        have HSTR := hide hStr
        clear hStr
        obtain ⟨st2, j', lo2, hst2, rfl, hjm, hStr2⟩ := HSTR2.out
        obtain rfl : st' = st2 := by omega
        have hjm' : j' < m := by omega
        have HSTR' := hide hStr2
        clear hst2 hStr2
        go_wp2_with fail
        refine HCL.out.mono ?_
        rintro e w2 ⟨a1, rfl, ha1, hO1, hb1⟩
        clear HCL
        have hG1 : 0 < n → w1.heap.size < w2.heap.size := hO1.lt
        have HA1 := hide ha1
        clear ha1
        have HCS := hide (cloneStr_any m c' b' off' S w2 (by omega) hm0 (fun j hj => (hb1.cell (p := ⟨b', off' + j, none⟩) hbl').trans (HAS.out j hj)))
        go_wp2_with fail
        refine HCS.out.mono ?_
        rintro e w3 ⟨rfl, hD, hb2⟩
        clear HCS
        have hO1' : Ow w3 a1 n w1.heap.size zs := hO1.keep hb2 hG1
        have hb2' : Below w1.heap.size w1 w3 := hb1.trans (hb2.mono hb1.size)
        have hG1' : 0 < n → w1.heap.size < w3.heap.size := fun h => Nat.lt_of_lt_of_le (hG1 h) hb2.size
        have HCW := hide (clone_any a1 n n w1.heap.size 0 zs w3 (by omega) hO1'.at HA1.out)
        clear hO1 hb1 hb2 hG1
        go_wp2_with fail
        refine HCW.out.mono ?_
        rintro e w4 ⟨a2, rfl, ha2, hO2, hb3⟩
        clear HCW ha2
        have hG2 : 0 < n → w3.heap.size < w4.heap.size := hO2.lt
        have hO14 : Ow w4 a1 n w1.heap.size zs := hO1'.keep hb3 hG1'
        have hD4 := hD.of_block (hb3.block _ hD.lt)
        have hb4 : Below w1.heap.size w1 w4 := hb2'.trans (hb3.mono hb2'.size)
        have HNF := hide (newFol_at false st' a2 n n w2.heap.size m S w4 (by omega) hD4)
        clear hO1' hb2' hD hb3 hD4
        go_wp2_with fail
        refine HNF.out.mono ?_
        rintro e w5 ⟨Q, H, rfl, hFo, hb5⟩
        clear HNF
        have hO15 : Ow w5 a1 n w1.heap.size zs := hO14.keep hb5 hO14.lt
        have hO25 : Ow w5 a2 n w3.heap.size zs := hO2.keep hb5 hO2.lt
        have hb5' : Below w1.heap.size w1 w5 := hb4.trans (hb5.mono hb4.size)
        have hA5 : F.answers w5.tape := by rw [hb5'.tape]; exact hF
        clear hO14 hO2 hb4 hb5 hG2
        generalize hg2 : w3.heap.size = G2 at *
        generalize hg1 : w1.heap.size = G1 at *
        have HG1 := hide hg1
        clear hg1 hg2
        have hlo := HSTR.out.hlo
        have hle := HSTR.out.hle
        obtain ⟨G, hOG, hQG, hHG, hBG, hGG⟩ := pick_row (B := G1) hFo hO25 (by have := hb5'.size; have := HG1.out; omega) (fun h => by have := hG1' h; omega)
        clear hO15 hO25 hGG hG1'
        have HL1 := hide (zzleft_any F false Q H m n lo st' i' G a2 zs w5 hA5 him' HSTR.out hOG hFo)
        go_wp2_with fail
        refine HL1.out.mono ?_
        rintro e w6 ⟨⟨er1, rfl, he1⟩, hb6⟩
        clear HL1
        have hO6 := hOG.keep hb6 hOG.lt
        have hFo6 := hFo.keep hb6 hFo.Qlt hFo.Hlt
        have hA6 : F.answers w6.tape := by rw [hb6.tape]; exact hA5
        have hb6' : Below G1 w1 w6 := hb5'.trans (hb6.mono (by have := hb5'.size; have := HG1.out; omega))
        clear hOG hFo hA5 hb5' hb6
        have HL2 := hide (zzleft_any F false Q H m n lo2 st' j' G a2 zs w6 hA6 hjm' HSTR'.out hO6 hFo6)
        go_wp2_with fail
        refine HL2.out.mono ?_
        rintro e w7 ⟨⟨er2, rfl, he2⟩, hb7⟩
        clear HL2
        have hO7 := hO6.keep hb7 hO6.lt
        have hFo7 := hFo6.keep hb7 hFo6.Qlt hFo6.Hlt
        have hA7 : F.answers w7.tape := by rw [hb7.tape]; exact hA6
        have hb7' : Below G1 w1 w7 := hb6'.trans (hb7.mono (by have := hb6'.size; have := HG1.out; omega))
        clear hO6 hFo6 hA6 hb6' hb7
        have HF1 := hide (zzforfeit_any F false Q H m n lo st' i' G a2 zs w7 hA7 him' HSTR.out hO7 hFo7)
        go_wp2_with fail
        refine HF1.out.mono ?_
        rintro e w8 ⟨⟨er3, rfl, he3⟩, hbut8, hO8⟩
        clear HF1
        have hFo8 := hFo7.but hbut8 hQG hHG
        have hA8 : F.answers w8.tape := by rw [hbut8.tape]; exact hA7
        have hb8' : Below G1 w1 w8 := hb7'.trans (hbut8.below (by have := hb7'.size; have := HG1.out; omega) hBG)
        clear hO7 hFo7 hA7 hb7' hbut8
        have HL3 := hide (zzleft_any F false Q H m n lo st' i' G a2 (cleared n zs lo st') w8 hA8 him' (HSTR.out.clear lo st') hO8 hFo8)
        rw [(left_cleared HSTR.out).1, (left_cleared HSTR.out).2] at HL3
        go_wp2_with fail
        refine HL3.out.mono ?_
        rintro e w9 ⟨⟨er4, rfl, he4⟩, hb9⟩
        obtain rfl := he4.yes rfl
        clear HL3 he4
        have hO9 := hO8.keep hb9 hO8.lt
        have hFo9 := hFo8.keep hb9 hFo8.Qlt hFo8.Hlt
        have hA9 : F.answers w9.tape := by rw [hb9.tape]; exact hA8
        have hb9' : Below G1 w1 w9 := hb8'.trans (hb9.mono (by have := hb8'.size; have := HG1.out; omega))
        clear hO8 hFo8 hA8 hb8' hb9
        have HF2 := hide (zzforfeit_any F false Q H m n lo st' i' G a2 (cleared n zs lo st') w9 hA9 him' (HSTR.out.clear lo st') hO9 hFo9)
        rw [(left_cleared HSTR.out).1, (left_cleared HSTR.out).2] at HF2
        go_wp2_with fail
        refine HF2.out.mono ?_
        rintro e wA ⟨⟨er5, rfl, he5⟩, hbutA, hOA⟩
        obtain rfl := he5.yes rfl
        clear HF2 he5
        have hFoA := hFo9.but hbutA hQG hHG
        have hAA : F.answers wA.tape := by rw [hbutA.tape]; exact hA9
        have hbA' : Below G1 w1 wA := hb9'.trans (hbutA.below (by have := hb9'.size; have := HG1.out; omega) hBG)
        clear hO9 hFo9 hA9 hb9' hbutA
        have HL4 := hide (zzleft_any F false Q H m n lo2 st' j' G a2 (cleared n (cleared n zs lo st') lo st') wA hAA hjm' ((HSTR'.out.clear lo st').clear lo st') hOA hFoA)
        go_wp2_with fail
        refine HL4.out.mono ?_
        rintro e wB ⟨⟨er6, rfl, he6⟩, hbB⟩
        clear HL4
        have hOB := hOA.keep hbB hOA.lt
        have hFoB := hFoA.keep hbB hFoA.Qlt hFoA.Hlt
        have HBB : Hid (Below w1.heap.size w1 wB) := by rw [HG1.out]; exact hbA'.trans (hbB.mono (by have := hbA'.size; have := HG1.out; omega))
        have HZS : Hid (∀ d, Calls Tryf.prog 15 #[.pointer (some ⟨Q, 0, none⟩)] (wB.drewN d) fun e w' => e = .returned (.slice a2 n n) ∧ w' = wB.drewN d) := fun d => zzshares_any false Q H m n n st' a2 _ (hFoB.drewN d)
        have HRW : Hid (∀ y, y < st' → a2 = some ⟨G, 0, none⟩ ∧ wB.cell? ⟨G, lo + y, none⟩ = some (.int .i64 0)) := fun y hy => by
          obtain ⟨ha, hr⟩ := hOB (by omega)
          refine ⟨ha, ?_⟩
          rw [hr.cell (show lo + y < n by omega)]
          show some (Value.int .i64 _) = _
          rw [cleared_get (by omega), if_pos (by omega)]
        clear hOA hFoA hAA hbA' hbB hOB hFoB hQG hHG hBG
        have hJ : (i' = j' ∧ leftV false (cleared n (cleared n zs lo st') lo st') lo2 st' = 0 ∧ leftOk false (cleared n (cleared n zs lo st') lo st') lo2 st' = true) ∨ (i' ≠ j' ∧ leftV false (cleared n (cleared n zs lo st') lo st') lo2 st' = leftV false zs lo2 st' ∧ leftOk false (cleared n (cleared n zs lo st') lo st') lo2 st' = leftOk false zs lo2 st') := by
          by_cases hij : i' = j'
          · subst hij
            have := same_of HSTR.out HSTR'.out
            subst this
            exact .inl ⟨rfl, left_cleared (HSTR.out.clear lo st')⟩
          · exact .inr ⟨hij, left_spared HSTR.out HSTR'.out hij⟩
        generalize leftV false (cleared n (cleared n zs lo st') lo st') lo2 st' = v6 at *
        generalize leftOk false (cleared n (cleared n zs lo st') lo st') lo2 st' = ok6 at *
        generalize leftV false zs lo2 st' = v2 at *
        generalize leftOk false zs lo2 st' = ok2 at *
        generalize leftV false zs lo st' = v1 at *
        generalize leftOk false zs lo st' = ok1 at *
        have hv1 : (v1 != v1) = false := by simp
        have hv2 : (v2 != v2) = false := by simp
        have HJ := hide hJ
        clear hJ
        go_wp2_with fail
        rcases errs_same he1 he3 with ⟨rfl, rfl⟩ | ⟨p1, p3, rfl, rfl⟩
        all_goals
          clear he1 he3
          rcases HJ.out with ⟨hij, rfl, rfl⟩ | ⟨hij, rfl, rfl⟩
          · subst hij
            obtain rfl := he6.yes rfl
            have hii : ((i' : Int) == (i' : Int)) = true := by simp
            clear HJ he6 he2
            go_quiet (fail)
            go_wp2_with fail
            refine (HZS.out _).mono ?_
            rintro e wC ⟨rfl, rfl⟩
            clear HZS
            go_wp2
            go_loopg [31] st' (fun k iv wr => ∃ y d : Nat, k = st' - y ∧ y ≤ st' ∧ iv = .int .i64 ((lo + y : Nat) : Int) ∧ wr = wB.drewN d)
            case atStart => exact ⟨0, _, rfl, Nat.zero_le _, rfl, rfl⟩
            case round =>
              clear hq hx hlt hlo
              obtain ⟨y, d, hk, hy, rfl, rfl⟩ := hrel
              have HK := hide hk
              clear hk
              by_cases hlt : y < st'
              · obtain ⟨rfl, c2⟩ := HRW.out y hlt
                have hyn : ((lo + y : Nat) : Int) < (lo : Int) + (st' : Int) := by omega
                go_wp2
                go_roundg (st' - (y + 1))
                case measure => rw [HK.out]; omega
                case rel => exact ⟨y + 1, d, rfl, by omega, by go_num, rfl⟩
              · have hyn : ¬ ((lo + y : Nat) : Int) < (lo : Int) + (st' : Int) := by omega
                go_wp2
                go_ret
                exact ⟨rfl, below_drewN HBB.out _⟩
          · have hne : ((i' : Int) == (j' : Int)) = false := by rw [beq_eq_false_iff_ne]; omega
            rcases errs_same he2 he6 with ⟨rfl, rfl⟩ | ⟨p2, p6, rfl, rfl⟩
            all_goals
              clear HJ he6 he2
              go_quiet (fail)
              go_wp2
              go_quiet (fail)
              go_wp2_with fail
              refine (HZS.out _).mono ?_
              rintro e wC ⟨rfl, rfl⟩
              clear HZS
              go_wp2
              go_loopg [31] st' (fun k iv wr => ∃ y d : Nat, k = st' - y ∧ y ≤ st' ∧ iv = .int .i64 ((lo + y : Nat) : Int) ∧ wr = wB.drewN d)
              case atStart => exact ⟨0, _, rfl, Nat.zero_le _, rfl, rfl⟩
              case round =>
                clear hq hx hlt hlo
                obtain ⟨y, d, hk, hy, rfl, rfl⟩ := hrel
                have HK := hide hk
                clear hk
                by_cases hlt : y < st'
                · obtain ⟨rfl, c2⟩ := HRW.out y hlt
                  have hyn : ((lo + y : Nat) : Int) < (lo : Int) + (st' : Int) := by omega
                  go_wp2
                  go_roundg (st' - (y + 1))
                  case measure => rw [HK.out]; omega
                  case rel => exact ⟨y + 1, d, rfl, by omega, by go_num, rfl⟩
                · have hyn : ¬ ((lo + y : Nat) : Int) < (lo : Int) + (st' : Int) := by omega
                  go_wp2
                  go_ret
                  exact ⟨rfl, below_drewN HBB.out _⟩

end Go.Proofs.Qxb6615855aFmt
