import Derived.Test.Qxb6615840aClose
namespace Go.Proofs.Qxb6615840a
open Go.RowKit

theorem newReader_rd (G n : Nat) (zs : List Int) (w : World) (h : w.rowIs G 5 n (fun j => .int .u8 (zs.getD j 0))) :
    Calls Try.prog 9 #[.slice (some ⟨G, 0, none⟩) n n] w fun e w' => e = .returned (.pointer (some ⟨w.heap.size, 0, none⟩)) ∧ Rd w.heap.size G n 0 zs w' ∧ Below w.heap.size w w' := by
  refine (newReader_any _ _ _ _).mono ?_
  rintro e w' ⟨rfl, rfl⟩
  exact ⟨rfl, rd_new h, (Below.refl _ _).alloc (Nat.le_refl _) _⟩

theorem nz_snoc {zs : List Int} {m : Nat} (h : ∀ j, j < m → zs.getD j 0 ≠ 0) {z : Int} (hz : z = zs.getD m 0) (hn : (z != 0) = true) : ∀ j, j < m + 1 → zs.getD j 0 ≠ 0 := by
  intro j hj
  by_cases e : j = m
  · subst e; rw [← hz]; simpa using hn
  · exact h j (by omega)

set_option maxHeartbeats 800000 in
theorem closes_any (b off n c : Nat) (zs : List Int) (w : World) (hz : zs.length = n) (h0 : 0 < n) (hn : n ≤ 1048576) (hb : b < w.heap.size) (hc : ∀ j, j < n → w.cell? ⟨b, off + j, none⟩ = some (.int .u8 (zs.getD j 0))) :
    Calls Try.prog 4 #[.slice (some ⟨b, off, none⟩) n c] w fun e w' => e = .returned (.bool true) ∧ Below w.heap.size w w' := by
  go_enter Try.func4, Try.ntmps4
  go_wp2_with (go_at_call 13; refine (bytes_any4 _ _ _ _ (by omega)).mono ?_; rintro e w0 ⟨rfl, rfl⟩)
  refine (copy_any b off n c zs _ hn hb hc).mono ?_
  rintro e w1 ⟨rfl, hsz, hrow, hbel⟩
  have HZ := hide hz
  have HC : Hid (∀ j, j < n → w1.cell? ⟨b, off + j, none⟩ = some (.int .u8 (zs.getD j 0))) := fun j hj => (hbel.cell (p := ⟨b, off + j, none⟩) hb).trans (hc j hj)
  have hb1 : b < w1.heap.size := by omega
  have hR : w0.heap.size ≤ w1.heap.size := by omega
  clear hsz hc hz
  go_wp2_with fail
  refine (newReader_rd _ _ zs _ hrow).mono ?_
  rintro e w2 ⟨rfl, hrd, hbel2⟩
  have HR : Hid (∀ j, j < n → w2.cell? ⟨b, off + j, none⟩ = some (.int .u8 (zs.getD j 0))) := fun j hj => (hbel2.cell (p := ⟨b, off + j, none⟩) hb1).trans (HC.out j hj)
  have hb2 : Below w0.heap.size w0 w2 := hbel.trans (hbel2.mono hR)
  clear HC hrow hbel hbel2
  generalize hG : w0.heap.size = G at *
  have HG := hide hG
  clear hG
  generalize w1.heap.size = R at *
  go_wp2
  go_loopg [4] n (fun k i wr => w2 = wr ∧ ∃ m : Nat, k = n - m ∧ m ≤ n ∧ i = .int .i64 m ∧ ∀ j, j < m → zs.getD j 0 ≠ 0)
  case atStart => exact ⟨rfl, 0, rfl, Nat.zero_le _, rfl, fun j h => absurd h (by omega)⟩
  case round =>
    obtain ⟨rfl, m, hk, hm, rfl, hnz⟩ := hrel
    have HK := hide hk
    have HNZ := hide hnz
    clear hk hnz
    by_cases hgo : m < n ∧ zs.getD m 0 ≠ 0
    · obtain ⟨hlt, hne⟩ := hgo
      obtain ⟨z, hz⟩ : ∃ z, z = zs.getD m 0 := ⟨_, rfl⟩
      have ct := HR.out m hlt
      rw [← hz] at ct hne
      have HZZ := hide hz
      clear hz
      have hz0 : (z != 0) = true := by rw [bne_iff_ne]; exact hne
      clear hne
      go_wp2
      go_roundg (n - (m + 1))
      case measure => rw [HK.out]; omega
      case rel => exact ⟨rfl, m + 1, rfl, by omega, by go_num, nz_snoc HNZ.out HZZ.out hz0⟩
    · have HF : Hid (FirstNul zs m) := by
        have hzl := HZ.out
        refine ⟨by omega, HNZ.out, ?_⟩
        by_cases hlt : m < n
        · exact Classical.not_not.1 (fun e => hgo ⟨hlt, e⟩)
        · simp [List.getD, List.getElem?_eq_none (show zs.length ≤ m by omega)]
      clear hgo HNZ HK
      by_cases hlt : m < n
      all_goals first
        | (have ct := HR.out m hlt; rw [HF.out.here] at ct; go_wp2)
        | go_wp2
      all_goals
        go_loopg [5, 6] m (fun k wv iv wr => w2 = wr ∧ ∃ i : Nat, k = m - i ∧ i ≤ m ∧ iv = .int .i64 i ∧ wv = .int .i64 (cnt zs i))
        case atStart => exact ⟨rfl, 0, rfl, Nat.zero_le _, rfl, by rw [cnt_zero]; rfl⟩
        case round =>
          obtain ⟨rfl, i, hk, him, rfl, rfl⟩ := hrel
          have HK := hide hk
          clear hk
          have hcl := cnt_le zs i
          by_cases hi : i < m
          · obtain ⟨z, hz⟩ : ∃ z, z = zs.getD i 0 := ⟨_, rfl⟩
            have ct2 := HR.out i (by omega)
            rw [← hz] at ct2
            have HZZ := hide hz
            clear hz
            by_cases hs : isSp z = true
            · have hcn : Hid (cnt zs (i + 1) = cnt zs i) := cnt_sp zs i (by have := HZ.out; omega) (by rw [← HZZ.out]; exact hs)
              go_wp2_with (go_at_call 14; refine (isSpace_any _ _).mono ?_; rintro e w3 ⟨rfl, rfl⟩)
              go_roundg (m - (i + 1))
              case measure => rw [HK.out]; omega
              case rel => exact ⟨rfl, i + 1, rfl, by omega, by go_num, by rw [hcn.out]⟩
            · have hs' : isSp z = false := by simpa using hs
              clear hs
              have hcn : Hid (cnt zs (i + 1) = cnt zs i + 1) := cnt_no zs i (by have := HZ.out; omega) (by rw [← HZZ.out]; exact hs')
              go_wp2_with (go_at_call 14; refine (isSpace_any _ _).mono ?_; rintro e w3 ⟨rfl, rfl⟩)
              go_roundg (m - (i + 1))
              case measure => rw [HK.out]; omega
              case rel => exact ⟨rfl, i + 1, rfl, by omega, by go_num, by rw [hcn.out]; go_num⟩
          · obtain rfl : i = m := by omega
            clear HK hi
            go_wp2
            go_loopg [7, 8] (n + 1) (fun k cv sv wr => ∃ p s : Nat, k = n + 1 - s ∧ p ≤ i ∧ s = cnt zs p ∧ cv = .int .i64 s ∧ sv = .int .i64 s ∧ Rd R G n p zs wr ∧ Below G w0 wr)
            case atStart => exact ⟨0, 0, rfl, Nat.zero_le _, (cnt_zero zs).symm, rfl, rfl, hrd, hb2⟩
            case round =>
              obtain ⟨p, s, hk, hp, hs, rfl, rfl, hr, hbl⟩ := hrel
              have HK := hide hk
              have HS := hide hs
              have hsp : s ≤ p := by rw [hs]; exact cnt_le zs p
              clear hk hs
              go_wp2_with fail
              refine (next_any R G n p zs _ hn HZ.out (by omega) hr).mono ?_
              rintro e w3 ⟨q, hpq, hqn, hq1, hq2, rfl, hr3, ho3⟩
              have HQ1 := hide hq1
              have HQ2 := hide hq2
              have hqm : q ≤ i := HF.out.next_le hp hq1
              clear hq1 hq2
              have hbl3 : Below G w0 w3 := hbl.trans (ho3.below hR)
              by_cases hz0 : zs.getD q 0 = 0
              · obtain rfl : q = i := HF.out.at_zero hqm hz0
                have HE : Hid (cnt zs q = s) := by rw [HS.out]; exact cnt_skip zs p q hpq (by have := HZ.out; omega) HQ1.out
                rw [HE.out, hz0]
                have hrefl : ((s : Int) == (s : Int)) = true := by simp
                have HNX := hide (next_stay R G n q zs w3 hn HZ.out hqn HF.out.notSp hr3)
                rw [hz0] at HNX
                clear hz0
                go_wp2_with fail
                refine HNX.out.mono ?_
                rintro e w4 ⟨rfl, hr4, ho4⟩
                have hc4 := hr4.c1
                go_wp2_with (go_at_call 12; refine (pos_any _ _ _ hc4).mono ?_; rintro e w5 ⟨rfl, rfl⟩)
                go_ret
                exact ⟨rfl, by rw [HG.out]; exact hbl3.trans (ho4.below hR)⟩
              · obtain ⟨z, hz⟩ : ∃ z, z = zs.getD q 0 := ⟨_, rfl⟩
                rw [← hz] at hz0 ⊢
                have hz1 : (z == 0) = false := by rw [beq_eq_false_iff_ne]; exact hz0
                have hqi : q < i := by
                  by_cases e : q = i
                  · exact absurd (hz.trans (by rw [e]; exact HF.out.here)) hz0
                  · omega
                have HCL := hide (close_at R G n q zs w3 hn HZ.out (by omega) (HQ2.out (by omega)) (by rw [← hz]; exact hz0) hr3)
                have hE : s + 1 = cnt zs (q + 1) := by
                  have hzl := HZ.out
                  rw [cnt_no zs q (by omega) (HQ2.out (by omega)), cnt_skip zs p q hpq (by omega) HQ1.out, HS.out]
                have HE := hide hE
                clear hz hz0 hE
                go_wp2_with fail
                refine HCL.out.mono ?_
                rintro e w4 ⟨rfl, hr4, ho4⟩
                go_wp2
                go_roundg (n + 1 - (s + 1))
                case measure => rw [HK.out]; omega
                case rel => exact ⟨q + 1, s + 1, rfl, by omega, HE.out, by go_num, by go_num, hr4, hbl3.trans (ho4.below hR)⟩
end Go.Proofs.Qxb6615840a
