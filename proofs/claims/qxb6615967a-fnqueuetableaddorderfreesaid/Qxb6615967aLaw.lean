/-
  THE LAW FnQueueTableAddOrderFree: its walk.
-/
import Derived.Test.Qxb6615967aCnt
import Derived.Deep.Cut
import Derived.Deep.CutRange
import Derived.Deep.RegionWith
namespace Go.Proofs.Qxb6615967a
open Go.RowKit

theorem Try.info3 : (Try.prog.info? 3).map (fun i => (i.zero, i.size, i.bytes)) = some (some (.int .i64 0), 1, 8) := by kernel_rfl

theorem Tab.below {w w' : World} {tb B len : Nat} {cs : List (List Nd)} (h : Tab w tb B len cs) (hb : Below w.heap.size w w') : Tab w' tb B len cs := by
  obtain ⟨a, C, h1, h2, h3⟩ := h.ex
  exact ⟨⟨a, C, h1.of_block (hb.block tb h1.lt), h2, fun hp => ⟨(h3 hp).1, (h3 hp).2.1.of_blocks (hb.block C (h3 hp).2.1.row.lt) (fun l hl y hy => hb.block y.1 (((h3 hp).2.1.links l hl).lt y hy)), (h3 hp).2.2⟩⟩, h.nodup, h.own, h.small⟩

/-- zzChainCount over a table whose queues bear the first n hashes. -/
theorem tab_count {w : World} {tb B n nc c : Nat} {cs : List (List Nd)} {hs : Nat → Nat} (h : Tab w tb B n cs) (hl' : cs.length = nc) (hp : (cs.flatten.map Prod.snd).Perm (hl hs n)) (hc : c < nc) (hn : n ≤ 1048576) :
    Calls Try.prog 11 #[.pointer (some ⟨tb, 0, none⟩), .int .i64 c, .int .i64 n] w fun e w' => e = .returned (.int .i64 (cntp nc hs c n)) ∧ w' = w := by
  subst hl'
  obtain ⟨a, C, h1, _, h3⟩ := h.ex
  obtain ⟨rfl, hC, _⟩ := h3 (by omega)
  have e := chain_len hC hp hc
  have := count_any tb n C cs.length c n (cs.getD c []) w h1 hc (hC.row.cell hc) (hC.links _ (getD_mem hc)) (by rw [e]; exact cntp_le _ _ _ _) hn
  rw [e] at this
  exact this
theorem tab_fit {w : World} {tb B n nc c : Nat} {cs : List (List Nd)} {hs : Nat → Nat} (h : Tab w tb B n cs) (hl' : cs.length = nc) (hp : (cs.flatten.map Prod.snd).Perm (hl hs n)) (hc : c < nc) (hn : n ≤ 1048576) (hnc : nc ≤ 65536) :
    Calls Try.prog 12 #[.pointer (some ⟨tb, 0, none⟩), .int .i64 c, .int .i64 nc, .int .i64 n] w fun e w' => e = .returned (.bool true) ∧ w' = w := by
  subst hl'
  obtain ⟨a, C, h1, _, h3⟩ := h.ex
  obtain ⟨rfl, hC, _⟩ := h3 (by omega)
  have e := chain_len hC hp hc
  exact fit_any tb n C cs.length c n (cs.getD c []) w h1 hc hnc (hC.row.cell hc) (hC.links _ (getD_mem hc)) (by rw [e]; exact cntp_le _ _ _ _) hn (fun x hx => hC.fit c hc x hx)
    (fun x hx => h.small x (List.mem_flatten.2 ⟨_, getD_mem hc, hx⟩))

set_option maxRecDepth 100000 in
set_option maxHeartbeats 8000000 in
theorem law_any (a : Option Addr) (tl c b off : Nat) (S : Nat → ByteArray) (a' : Option Addr) (m c' b' off' : Nat) (hs : Nat → Nat) (w : World) (htl : tl ≤ maxLen) (hm : m ≤ maxLen)
    (hA : At w a tl b off (fun j => .string (S j))) (hS : ∀ j, j < tl → (S j).size ≤ maxLen) (hA' : At w a' m b' off' (fun j => .int .u64 (hs j))) (hh : ∀ j, j < m → hs j < 18446744073709551616) :
    Calls Try.prog 3 #[.slice a tl c, .slice a' m c'] w fun e w' => e = .returned (.bool true) ∧ Below w.heap.size w w' := by
  have HB := hide (bytes_any a tl c b off S a' m c' w htl hm hA hS)
  have HH := hide hh
  clear hS hh
  unfold maxLen at htl hm
  go_enter Try.func3, Try.ntmps3
  go_wp2_with fail
  refine HB.out.mono ?_
  rintro e w0 ⟨⟨r, rfl, hr⟩, hw⟩
  obtain rfl := hw.symm
  clear hw HB
  cases r with
  | false =>
    clear hr
    go_wp2
    go_ret
    exact ⟨rfl, Below.refl _ _⟩
  | true =>
  have HSZ := hide (hr rfl)
  clear hr
  by_cases h1 : 4096 < tl
  · go_wp2
    go_ret
    exact ⟨rfl, Below.refl _ _⟩
  by_cases h2 : 4096 < m
  · go_wp2
    go_ret
    exact ⟨rfl, Below.refl _ _⟩
  go_wp2
  go_loopg [5, 6] tl (fun k z iv wr => w = wr ∧ ∃ q x : Nat, k = tl - q ∧ q ≤ tl ∧ iv = .int .i64 q ∧ z = .int .i64 x ∧ x ≤ 4194304)
  case atStart => exact ⟨rfl, 0, 16 * tl + 8 * m, rfl, Nat.zero_le _, rfl, by go_num, by omega⟩
  case round =>
    obtain ⟨rfl, q, x, hk, hq, rfl, rfl, hx⟩ := hrel
    have HK := hide hk
    clear hk
    by_cases hgo : q < tl ∧ x ≤ 1048576
    · obtain ⟨hlt, hx2⟩ := hgo
      obtain rfl := hA.1 (by omega)
      have ct := hA.2 q hlt
      simp only [] at ct
      have hsz := HSZ.out q hlt
      clear hA HSZ hA'
      generalize S q = s at *
      go_wp2
      go_roundg (tl - (q + 1))
      case measure => rw [HK.out]; omega
      case rel => exact ⟨rfl, q + 1, x + s.size, rfl, by omega, by go_num, by go_num, by omega⟩
    · by_cases hbig : 1048576 < x
      · by_cases hlt : q < tl
        · go_wp2
          go_ret
          exact ⟨rfl, Below.refl _ _⟩
        · go_wp2
          go_ret
          exact ⟨rfl, Below.refl _ _⟩
      have hlt : ¬ q < tl := fun h => hgo ⟨h, by omega⟩
      clear hgo HSZ HK
      obtain ⟨n, hn1, hn2, hn3⟩ : ∃ n : Nat, n ≤ tl ∧ n ≤ m ∧ (n = tl ∨ (n = m ∧ m ≤ tl)) := by
        by_cases h : tl < m
        · exact ⟨tl, by omega, by omega, .inl rfl⟩
        · exact ⟨m, by omega, by omega, .inr ⟨rfl, by omega⟩⟩
      have HN := hide hn3
      clear hn3
      go_upto_if 61 with (fail)
      go_cut [7] from 18 (fun nv wc => nv = .int .i64 n ∧ wc = w)
      case first =>
        by_cases h : tl < m
        · go_wp2
          go_meet
          case rel => exact ⟨by have := HN.out; go_num, rfl⟩
        · go_wp2
          go_meet
          case rel => exact ⟨by have := HN.out; go_num, rfl⟩
      case rest =>
        obtain ⟨rfl, hw⟩ := hcut
        obtain rfl := hw.symm
        clear hw hbig hlt hq hx HN
        have HD := hide (distinct_any a tl c b off n S w (by omega) hn1 hA)
        go_wp2_with fail
        refine HD.out.mono ?_
        rintro e w1 ⟨⟨r, rfl⟩, d, hw1⟩
        clear HD
        have hb1 : Below w.heap.size w w1 := by rw [hw1]; exact below_drewN (Below.refl _ _) d
        have hz1 : w1.heap.size = w.heap.size := by rw [hw1]; rfl
        have hA1 : At w1 a tl b off (fun j => .string (S j)) := hA.of_block (fun h0 => hb1.block b (hA.lt h0))
        have hA1' : At w1 a' m b' off' (fun j => .int .u64 (hs j)) := hA'.of_block (fun h0 => hb1.block b' (hA'.lt h0))
        clear hw1 hA hA'
        cases r with
        | false =>
          go_wp2
          go_ret
          exact ⟨rfl, hb1⟩
        | true =>
        have HZ1 := hide hz1
        have HB1 := hide hb1
        clear hz1 hb1
        go_wp2_with (go_at_call 6; refine (newTable_any _).mono ?_; rintro e w2 ⟨rfl, rfl⟩)
        obtain ⟨W2, hW2⟩ : ∃ W2, W2 = (w1.alloc (.cells #[.slice none 0 0, .int .i64 0, .slice none 0 0] 43)).alloc (.cells #[.slice none 0 0, .int .i64 0, .slice none 0 0] 43) := ⟨_, rfl⟩
        have hTA : TabAt W2 w1.heap.size (.slice none 0 0) 0 := by
          rw [hW2]
          unfold TabAt
          rw [Deep.blk_alloc_lt _ _ _ (by simp), Deep.blk_alloc_new]
          rfl
        have hTB : TabAt W2 (w1.heap.size + 1) (.slice none 0 0) 0 := by
          rw [hW2]
          unfold TabAt
          have := Deep.blk_alloc_new (w1.alloc (.cells #[.slice none 0 0, .int .i64 0, .slice none 0 0] 43)) (.cells #[.slice none 0 0, .int .i64 0, .slice none 0 0] 43)
          rw [World.size_alloc] at this
          rw [this]
          rfl
        have hz2 : W2.heap.size = w1.heap.size + 2 := by rw [hW2]; simp
        have hb2 : Below w1.heap.size w1 W2 := by rw [hW2]; exact ((Below.refl _ _).alloc (Nat.le_refl _) _).alloc (by simp) _
        rw [← hW2]
        have hA2 : At W2 a tl b off (fun j => .string (S j)) := hA1.of_block (fun h0 => hb2.block b (hA1.lt h0))
        have hA2' : At W2 a' m b' off' (fun j => .int .u64 (hs j)) := hA1'.of_block (fun h0 => hb2.block b' (hA1'.lt h0))
        have hlb : 0 < tl → b < w1.heap.size := hA1.lt
        have hlb' : 0 < m → b' < w1.heap.size := hA1'.lt
        have HBW : Hid (Below w.heap.size w W2) := HB1.out.trans (hb2.mono (by have := HZ1.out; omega))
        have HZ2 := hide hz2
        clear hW2 hA1 hA1' hz2 hb2 HB1
        generalize hAe : w1.heap.size = A at *
        have HAE : Hid (A = w.heap.size) := by have := HZ1.out; omega
        clear hAe HZ1
        go_loopg [10] n (fun k iv wr => ∃ (q : Nat) (cs : List (List Nd)), k = n - q ∧ q ≤ n ∧ iv = .int .i64 q ∧ Tab wr A (A + 2) q cs ∧ cs.length = mc q ∧ (cs.flatten.map Prod.snd).Perm (hl hs q) ∧ Fr A (A + 2) W2 wr)
        case atStart => exact ⟨0, [], rfl, Nat.zero_le _, rfl, Tab.new hTA, rfl, List.Perm.refl _, Fr.refl _ _ _⟩
        case round =>
          obtain ⟨y, cs, hk, hy, rfl, hT, hcl, hperm, hfr⟩ := hrel
          have HK := hide hk
          have HCL := hide hcl
          have HPERM := hide hperm
          clear hk hcl hperm
          by_cases hlt : y < n
          · obtain rfl := hA2.1 (by omega)
            obtain rfl := hA2'.1 (by omega)
            have ct : wr.cell? ⟨b, off + y, none⟩ = some (.string (S y)) := (hA2.of_block (w' := wr) (fun h0 => hfr.block b (by have := hlb h0; omega) (by have := hlb h0; omega))).2 y (by omega)
            have ch : wr.cell? ⟨b', off' + y, none⟩ = some (.int .u64 (hs y)) := (hA2'.of_block (w' := wr) (fun h0 => hfr.block b' (by have := hlb' h0; omega) (by have := hlb' h0; omega))).2 y (by omega)
            have hhy := HH.out y (by omega)
            have hbw' : b' < wr.heap.size := by have := hlb' (by omega); have := hfr.size; have := HZ2.out; omega
            have hsz : A + 2 ≤ wr.heap.size := by have := hfr.size; have := HZ2.out; omega
            have HHY : Hid (hl hs (y + 1) = hs y :: hl hs y) := rfl
            clear hA2 hA2'
            generalize S y = sy at *
            generalize hs y = hv at *
            have HAD := hide (zzadd_any A (A + 2) y wr.heap.size hv (mc (y + 1)) sy cs (wr.alloc (.cells #[.string sy, .string { data := #[] }, .slice none 0 0, .bool false] 31)) (hT.alloc _) (by simp; omega) (Deep.blk_alloc_new _ _) hhy (by omega)
              (by rw [HCL.out]; exact mc_step y) (mc_spec y).2.1 (by have := mc_le (y + 1) (by omega); omega))
            have hfr2 : Fr A (A + 2) W2 (wr.alloc (.cells #[.string sy, .string { data := #[] }, .slice none 0 0, .bool false] 31)) := hfr.alloc _ hsz
            have HFR2 := hide hfr2
            clear hT hfr hfr2
            go_wp2_with fail
            refine HAD.out.mono ?_
            rintro e w' ⟨⟨v, rfl⟩, ns, q', hT', hnl, hp', hfr'⟩
            clear HAD
            go_wp2
            go_roundg (n - (y + 1))
            case measure => rw [HK.out]; omega
            case rel => exact ⟨y + 1, ns, rfl, by omega, by go_num, hT', hnl, by rw [HHY.out]; exact (hp'.map Prod.snd).trans (HPERM.out.cons _), HFR2.out.trans hfr'⟩
          · obtain rfl : y = n := by omega
            clear hlt HK hTA
            have hTB3 : TabAt wr (A + 1) (.slice none 0 0) 0 := hTB.of_block (hfr.block (A + 1) (by omega) (by omega))
            have hA3 : At wr a tl b off (fun j => .string (S j)) := hA2.of_block (fun h0 => hfr.block b (by have := hlb h0; omega) (by have := hlb h0; omega))
            have hA3' : At wr a' m b' off' (fun j => .int .u64 (hs j)) := hA2'.of_block (fun h0 => hfr.block b' (by have := hlb' h0; omega) (by have := hlb' h0; omega))
            have HT3 := hide hT
            have HB3 : Hid (Below w.heap.size w wr) := ⟨hfr.os.trans HBW.out.os, hfr.tape.trans HBW.out.tape, hfr.output.trans HBW.out.output, Nat.le_trans HBW.out.size hfr.size, fun k hk => (hfr.block k (by have := HAE.out; omega) (by have := HAE.out; omega)).trans (HBW.out.block k hk)⟩
            have hsz3 : A + 2 ≤ wr.heap.size := by have := hfr.size; have := HZ2.out; omega
            clear hT hfr hA2 hA2' hTB HBW
            obtain ⟨W3, hW3⟩ : ∃ W3, W3 = wr := ⟨_, rfl⟩
            obtain rfl := hW3
            go_wp2
            go_loopg [12] y (fun k iv wr => ∃ (j : Nat) (cb : List (List Nd)), k = j ∧ j ≤ y ∧ iv = .int .i64 ((j : Int) - 1) ∧ Tab wr (A + 1) W3.heap.size (y - j) cb ∧ cb.length = mc (y - j) ∧ ((cb.flatten.map Prod.snd) ++ hl hs j).Perm (hl hs y) ∧ Fr (A + 1) W3.heap.size W3 wr)
            case atStart => exact ⟨y, [], rfl, Nat.le_refl _, rfl, by rw [Nat.sub_self]; exact Tab.new hTB3, by rw [Nat.sub_self]; rfl, List.Perm.refl _, Fr.refl _ _ _⟩
            case round =>
              obtain ⟨j, cb, hk, hj, rfl, hT, hbl, hperm, hfr⟩ := hrel
              have HK := hide hk
              have HBL := hide hbl
              have HPERM2 := hide hperm
              clear hk hbl hperm
              cases j with
              | succ j =>
                rw [show ((j + 1 : Nat) : Int) - 1 = (j : Int) by omega]
                obtain ⟨ln, hln⟩ : ∃ ln, ln = y - (j + 1) := ⟨_, rfl⟩
                have hln2 : y - j = ln + 1 := by omega
                rw [← hln] at hT HBL
                have HLN := hide hln2
                clear hln hln2
                obtain rfl := hA3.1 (by omega)
                obtain rfl := hA3'.1 (by omega)
                have ct : wr.cell? ⟨b, off + j, none⟩ = some (.string (S j)) := (hA3.of_block (w' := wr) (fun h0 => hfr.block b (by have := hlb h0; omega) (by have := hlb h0; omega))).2 j (by omega)
                have ch : wr.cell? ⟨b', off' + j, none⟩ = some (.int .u64 (hs j)) := (hA3'.of_block (w' := wr) (fun h0 => hfr.block b' (by have := hlb' h0; omega) (by have := hlb' h0; omega))).2 j (by omega)
                have hhy := HH.out j (by omega)
                have hbw' : b' < wr.heap.size := by have := hlb' (by omega); have := hfr.size; omega
                have hsz : W3.heap.size ≤ wr.heap.size := hfr.size
                have HHY : Hid (hl hs (j + 1) = hs j :: hl hs j) := rfl
                have hlny : ln ≤ 4095 := by have := HLN.out; omega
                clear hA3 hA3'
                generalize S j = sy at *
                generalize hs j = hv at *
                have HAD := hide (zzadd_any (A + 1) W3.heap.size ln wr.heap.size hv (mc (ln + 1)) sy cb (wr.alloc (.cells #[.string sy, .string { data := #[] }, .slice none 0 0, .bool false] 31)) (hT.alloc _) (by simp; omega) (Deep.blk_alloc_new _ _) hhy (by omega)
                  (by rw [HBL.out]; exact mc_step ln) (mc_spec ln).2.1 (by have := mc_le (ln + 1) (by omega); omega))
                have HFR2 := hide (hfr.alloc (.cells #[.string sy, .string { data := #[] }, .slice none 0 0, .bool false] 31) hsz)
                clear hT hfr
                go_wp2_with fail
                refine HAD.out.mono ?_
                rintro e w' ⟨⟨v, rfl⟩, ns, q', hT', hnl, hp', hfr'⟩
                clear HAD
                go_wp2
                go_roundg j
                case measure => rw [HK.out]; omega
                case rel =>
                  refine ⟨j, ns, rfl, by omega, rfl, by rw [HLN.out]; exact hT', by rw [HLN.out]; exact hnl, ?_, HFR2.out.trans hfr'⟩
                  have e1 := ((hp'.map Prod.snd).append_right (hl hs j))
                  rw [HHY.out] at HPERM2
                  exact e1.trans (List.perm_middle.symm.trans HPERM2.out)
              | zero =>
                have hTb : Tab wr (A + 1) W3.heap.size y cb := hT
                have hTa : Tab wr A (A + 2) y cs := HT3.out.keep hfr (by omega) hTB3
                have hbp : (cb.flatten.map Prod.snd).Perm (hl hs y) := by have := HPERM2.out; simpa [hl] using this
                have HBf : Hid (Below w.heap.size w wr) := HB3.out.trans ⟨hfr.os, hfr.tape, hfr.output, hfr.size, fun k hk => hfr.block k (by have := HAE.out; omega) (by have := HAE.out; omega)⟩
                have hA4' : At wr a' m b' off' (fun j => .int .u64 (hs j)) := hA3'.of_block (fun h0 => hfr.block b' (by have := hlb' h0; omega) (by have := hlb' h0; omega))
                have hbw' : 0 < m → b' < wr.heap.size := hA4'.lt
                have hcb : cb.length = mc y := HBL.out
                have hca : cs.length = mc y := HCL.out
                have HM := hide (model_any y wr (by omega))
                have hmle := mc_le y (by omega)
                have HM8 : Hid (0 < y → 8 ≤ mc y) := fun h0 => by
                  cases y with
                  | zero => omega
                  | succ y => exact (mc_spec y).1.ge
                clear hT hfr hA3 hA3' HT3 HB3 hTB3 HBL HCL HPERM2 HK
                generalize mc y = nc at *
                have HCA := hide hca
                have HCB := hide hcb
                obtain ⟨aa, CA, hta, _, _⟩ := hTa.ex
                obtain ⟨ab, CB, htb, _, _⟩ := hTb.ex
                rw [hca] at hta
                rw [hcb] at htb
                have H9a := hide (chains_any A y aa nc nc wr hta)
                have H9b := hide (chains_any (A + 1) y ab nc nc wr htb)
                have H10a := hide (len_any A y _ wr hta)
                have H10b := hide (len_any (A + 1) y _ wr htb)
                have HTA := hide hTa
                have HTB := hide hTb
                clear hta htb hTa hTb hca hcb
                have hnn : ((nc : Int) != (nc : Int)) = false := by simp
                have hyy : ((y : Int) != (y : Int)) = false := by simp
                go_wp2_with fail
                refine HM.out.mono ?_
                rintro e w1 ⟨rfl, hw⟩
                obtain rfl := hw.symm
                clear hw HM
                go_wp2_with fail
                refine H9a.out.mono ?_
                rintro e w1 ⟨rfl, hw⟩
                obtain rfl := hw.symm
                clear hw H9a
                go_wp2_with fail
                refine H9b.out.mono ?_
                rintro e w1 ⟨rfl, hw⟩
                obtain rfl := hw.symm
                clear hw H9b
                go_wp2_with fail
                refine H10a.out.mono ?_
                rintro e w1 ⟨rfl, hw⟩
                obtain rfl := hw.symm
                clear hw H10a
                go_wp2_with fail
                refine H10b.out.mono ?_
                rintro e w1 ⟨rfl, hw⟩
                obtain rfl := hw.symm
                clear hw H10b
                by_cases hy0 : y = 0
                · have hy0' : ((y : Int) == 0) = true := by simp [hy0]
                  clear hy0
                  go_wp2
                  go_ret
                  exact ⟨rfl, HBf.out⟩
                have hy0' : ((y : Int) == 0) = false := by rw [beq_eq_false_iff_ne]; omega
                have hnc8 : 8 ≤ nc := HM8.out (by omega)
                have hmk := run_make_row' (P := Try.prog) 38 3 (.int .i64 0) 8 Try.underlying38 Try.info3 rfl .i64 .i64 nc (by omega) (by omega)
                obtain ⟨W4, hW4⟩ : ∃ W4, W4 = wr := ⟨_, rfl⟩
                obtain rfl := hW4
                go_wp2
                clear hmk
                go_loopg [16] y (fun k iv w4 => ∃ t : Nat, k = y - t ∧ t ≤ y ∧ iv = .int .i64 t ∧ w4.rowIs W4.heap.size 3 nc (fun c => .int .i64 (cntp nc hs c t)) ∧ Below W4.heap.size W4 w4)
                case atStart =>
                  refine ⟨0, rfl, Nat.zero_le _, rfl, ?_, (Below.refl _ _).alloc (Nat.le_refl _) _⟩
                  exact (World.rowIs_made W4 (.int .i64 0) nc 3).congr (fun i _ => rfl)
                case round =>
                  obtain ⟨t, hk, ht, rfl, hrow, hbel⟩ := hrel
                  have HK := hide hk
                  clear hk
                  by_cases hlt : t < y
                  · obtain rfl := hA4'.1 (by omega)
                    have ch : wr.cell? ⟨b', off' + t, none⟩ = some (.int .u64 (hs t)) := (hbel.cell (p := ⟨b', off' + t, none⟩) (hbw' (by omega))).trans (hA4'.2 t (by omega))
                    have hbt := pk_bits (nc := nc) (h := hs t) (by omega) (by omega) (HH.out t (by omega))
                    have hpl := pk_lt (nc := nc) (h := hs t) (by omega)
                    have HCN : Hid (∀ c, cntp nc hs c (t + 1) = cntp nc hs c t + if pk nc (hs t) = c then 1 else 0) := fun c => rfl
                    have ck : wr.cell? ⟨W4.heap.size, pk nc (hs t), none⟩ = some (.int .i64 (cntp nc hs (pk nc (hs t)) t)) := hrow.cell hpl
                    have fk := hrow.frozen (pk nc (hs t))
                    have hcle := cntp_le nc hs (pk nc (hs t)) t
                    have HR := hide hrow
                    clear hrow hA4'
                    generalize hs t = hv at *
                    generalize pk nc hv = p at *
                    obtain ⟨cv, hcv⟩ : ∃ cv, cntp nc hs p t = cv := ⟨_, rfl⟩
                    rw [hcv] at ck hcle
                    have HCV := hide hcv
                    clear hcv
                    have h1' : (1 : Int) ≤ (nc : Int) := by omega
                    have hpl' : (p : Int) < (nc : Int) := by omega
                    go_wp2
                    go_roundg (y - (t + 1))
                    case measure => rw [HK.out]; omega
                    case rel =>
                      refine ⟨t + 1, rfl, by omega, by go_num, (HR.out.set p _).congr (fun j hj => ?_), hbel.setCell (Nat.le_refl _) _⟩
                      rw [HCN.out j]
                      by_cases e : j = p
                      · subst e; rw [if_pos rfl, if_pos rfl, HCV.out]; go_num
                      · rw [if_neg e, if_neg (fun h => e h.symm)]; go_num
                  · obtain rfl : t = y := by omega
                    have hTa5 := HTA.out.below hbel
                    have hTb5 := HTB.out.below hbel
                    have HBf5 : Hid (Below w.heap.size w wr) := HBf.out.trans (hbel.mono HBf.out.size)
                    obtain ⟨W5, hW5⟩ : ∃ W5, W5 = wr := ⟨_, rfl⟩
                    obtain rfl := hW5
                    have HCa : Hid (∀ c d, c < nc → Calls Try.prog 11 #[.pointer (some ⟨A, 0, none⟩), .int .i64 c, .int .i64 t] (W5.drewN d) fun e w' => e = .returned (.int .i64 (cntp nc hs c t)) ∧ w' = W5.drewN d) :=
                      fun c d hc => tab_count (hTa5.drewN d) HCA.out HPERM.out hc (by omega)
                    have HCb : Hid (∀ c d, c < nc → Calls Try.prog 11 #[.pointer (some ⟨A + 1, 0, none⟩), .int .i64 c, .int .i64 t] (W5.drewN d) fun e w' => e = .returned (.int .i64 (cntp nc hs c t)) ∧ w' = W5.drewN d) :=
                      fun c d hc => tab_count (hTb5.drewN d) HCB.out hbp hc (by omega)
                    have HFa : Hid (∀ c d, c < nc → Calls Try.prog 12 #[.pointer (some ⟨A, 0, none⟩), .int .i64 c, .int .i64 nc, .int .i64 t] (W5.drewN d) fun e w' => e = .returned (.bool true) ∧ w' = W5.drewN d) :=
                      fun c d hc => tab_fit (hTa5.drewN d) HCA.out HPERM.out hc (by omega) (by omega)
                    have HFb : Hid (∀ c d, c < nc → Calls Try.prog 12 #[.pointer (some ⟨A + 1, 0, none⟩), .int .i64 c, .int .i64 nc, .int .i64 t] (W5.drewN d) fun e w' => e = .returned (.bool true) ∧ w' = W5.drewN d) :=
                      fun c d hc => tab_fit (hTb5.drewN d) HCB.out hbp hc (by omega) (by omega)
                    have HRW := hide hrow
                    clear hTa5 hTb5 HTA HTB hbel HBf HK hA4' hrow hbp HPERM HCA HCB
                    go_wp2
                    go_loopg [17] nc (fun k iv wr => ∃ c d : Nat, k = nc - c ∧ c ≤ nc ∧ iv = .int .i64 c ∧ wr = W5.drewN d)
                    case atStart => exact ⟨0, 0, rfl, Nat.zero_le _, rfl, rfl⟩
                    case round =>
                      obtain ⟨cc, d, hk, hcc, rfl, rfl⟩ := hrel
                      have HK := hide hk
                      clear hk
                      by_cases hlt : cc < nc
                      · obtain ⟨W6, hW6⟩ : ∃ W6, W6 = W5.drewN d := ⟨_, rfl⟩
                        have hdd : ∀ d', W6.drewN d' = W5.drewN (d + d') := fun d' => by rw [hW6]; exact drewN_drewN W5 d d'
                        have ck : W6.cell? ⟨W4.heap.size, cc, none⟩ = some (.int .i64 (cntp nc hs cc t)) := by rw [hW6]; exact HRW.out.cell hlt
                        have Ha : Hid (∀ d', Calls Try.prog 11 #[.pointer (some ⟨A, 0, none⟩), .int .i64 cc, .int .i64 t] (W6.drewN d') fun e w' => e = .returned (.int .i64 (cntp nc hs cc t)) ∧ w' = W6.drewN d') := fun d' => by rw [hdd]; exact HCa.out cc _ hlt
                        have Hb : Hid (∀ d', Calls Try.prog 11 #[.pointer (some ⟨A + 1, 0, none⟩), .int .i64 cc, .int .i64 t] (W6.drewN d') fun e w' => e = .returned (.int .i64 (cntp nc hs cc t)) ∧ w' = W6.drewN d') := fun d' => by rw [hdd]; exact HCb.out cc _ hlt
                        have HFa' : Hid (∀ d', Calls Try.prog 12 #[.pointer (some ⟨A, 0, none⟩), .int .i64 cc, .int .i64 nc, .int .i64 t] (W6.drewN d') fun e w' => e = .returned (.bool true) ∧ w' = W6.drewN d') := fun d' => by rw [hdd]; exact HFa.out cc _ hlt
                        have HFb' : Hid (∀ d', Calls Try.prog 12 #[.pointer (some ⟨A + 1, 0, none⟩), .int .i64 cc, .int .i64 nc, .int .i64 t] (W6.drewN d') fun e w' => e = .returned (.bool true) ∧ w' = W6.drewN d') := fun d' => by rw [hdd]; exact HFb.out cc _ hlt
                        have HDD := hide hdd
                        rw [← hW6]
                        clear HCa HCb HFa HFb HRW hdd hW6
                        generalize cntp nc hs cc t = cv at *
                        have hvv : ((cv : Int) != (cv : Int)) = false := by simp
                        have hcn : (cc : Int) < (nc : Int) := by omega
                        go_wp2_with fail
                        go_quiet (first | (go_at_call_of 11 (Value.pointer (some ⟨A, 0, none⟩)); exact Calls.quiet_of_same (Ha.out _)) | (exact Calls.quiet_of_same (Hb.out _)))
                        go_wp2_with fail
                        refine (HFa'.out _).mono ?_
                        rintro e w1 ⟨rfl, rfl⟩
                        go_wp2_with fail
                        refine (HFb'.out _).mono ?_
                        rintro e w1 ⟨rfl, rfl⟩
                        go_wp2
                        go_roundg (nc - (cc + 1))
                        case measure => rw [HK.out]; omega
                        case rel => exact ⟨cc + 1, _, rfl, by omega, by go_num, HDD.out _⟩
                      · go_wp2
                        go_ret
                        exact ⟨rfl, below_drewN HBf5.out _⟩
end Go.Proofs.Qxb6615967a
