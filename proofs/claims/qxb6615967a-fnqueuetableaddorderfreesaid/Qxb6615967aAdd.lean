/-
  takeSpare, add.
-/
import Derived.Test.Qxb6615967aGrows
namespace Go.Proofs.Qxb6615967a
open Go.RowKit

theorem spare_any (tb : Nat) (w : World) (h : w.cell? ⟨tb, 2, none⟩ = some (.slice none 0 0)) :
    Calls Try.prog 18 #[.pointer (some ⟨tb, 2, none⟩)] w fun e w' => e = .returned (.pointer (some ⟨w.heap.size, 0, none⟩)) ∧
      w' = w.alloc (.cells #[.string { data := #[] }, .string { data := #[] }, .slice none 0 0, .bool false, .int .u64 0, .pointer none, .pointer none, .pointer none, .pointer none,
          .int .i64 0, .int .i64 0, .pointer none, .pointer none, .int .i64 0, .int .i64 0, .int .i64 0, .int .i64 0, .int .i64 0, .int .i64 0, .int .i64 0, .int .i64 0,
          .int .i64 0, .int .i64 0, .int .i64 0, .int .i64 0, .int .i64 0, .pointer none, .pointer none, .pointer none, .pointer none, .pointer none] 59) := by
  go_enter Try.func18, Try.ntmps18
  go_wp2
  go_ret
  exact ⟨rfl, rfl⟩

theorem Tab.drewN {w : World} {tb B len : Nat} {cs : List (List Nd)} (h : Tab w tb B len cs) (d : Nat) : Tab (w.drewN d) tb B len cs := by
  obtain ⟨a, C, h1, h2, h3⟩ := h.ex
  exact ⟨⟨a, C, h1.of_block rfl, h2, fun hp => ⟨(h3 hp).1, (h3 hp).2.1.of_blocks rfl (fun _ _ _ _ => rfl), (h3 hp).2.2⟩⟩, h.nodup, h.own, h.small⟩

/-- An entry that the caller lays: its table's name alone. -/
def Ent (w : World) (E : Nat) (s : ByteArray) : Prop := w.heap[E]? = some (.cells #[.string s, .string { data := #[] }, .slice none 0 0, .bool false] 31 (0, 0))
theorem Ent.c0 {w : World} {E : Nat} {s : ByteArray} (h : Ent w E s) : w.cell? ⟨E, 0, none⟩ = some (.string s) := by unfold Ent at h; simp [World.cell?, h]
theorem Ent.c1 {w : World} {E : Nat} {s : ByteArray} (h : Ent w E s) : w.cell? ⟨E, 1, none⟩ = some (.string { data := #[] }) := by unfold Ent at h; simp [World.cell?, h]
theorem Ent.c2 {w : World} {E : Nat} {s : ByteArray} (h : Ent w E s) : w.cell? ⟨E, 2, none⟩ = some (.slice none 0 0) := by unfold Ent at h; simp [World.cell?, h]
theorem Ent.c3 {w : World} {E : Nat} {s : ByteArray} (h : Ent w E s) : w.cell? ⟨E, 3, none⟩ = some (.bool false) := by unfold Ent at h; simp [World.cell?, h]

/-- What add leaves, in the table's own words. -/
theorem Tab.added {W : World} {tb B len C d h : Nat} {ns : List (List Nd)} {cs0 : Array Value} {p6 : Option Addr} {x : Int} (hT : Tab W tb B len ns) (hTab : TabAt W tb (.slice (some ⟨C, 0, none⟩) ns.length ns.length) len) (hC : Chs W C ns) (hBC : B ≤ C) (h0 : 0 < ns.length) (hB : B ≤ W.heap.size)
    (hs : cs0.size = 31) (h4 : cs0[4]? = some (.int .u64 h)) (h6 : cs0[6]? = some (.pointer p6)) (hh : h < 18446744073709551616) (hx : x = len + 1) :
    Tab (((((W.alloc (.cells cs0 59)).drewN d).setCell ⟨W.heap.size, 6, none⟩ (.pointer (hd (ns.getD (pk ns.length h) [])))).setCell ⟨C, pk ns.length h, none⟩ (.pointer (some ⟨W.heap.size, 0, none⟩))).setCell ⟨tb, 1, none⟩ (.int .i64 x)) tb B (len + 1) (push ns (pk ns.length h) (W.heap.size, h)) ∧
      (push ns (pk ns.length h) (W.heap.size, h)).length = ns.length ∧ (push ns (pk ns.length h) (W.heap.size, h)).flatten.Perm ((W.heap.size, h) :: ns.flatten) ∧
      Fr tb B W (((((W.alloc (.cells cs0 59)).drewN d).setCell ⟨W.heap.size, 6, none⟩ (.pointer (hd (ns.getD (pk ns.length h) [])))).setCell ⟨C, pk ns.length h, none⟩ (.pointer (some ⟨W.heap.size, 0, none⟩))).setCell ⟨tb, 1, none⟩ (.int .i64 x)) := by
  have hpf := push_flatten (W.heap.size, h) ns (pk ns.length h) (pk_lt h0)
  have hlen := push_length ns (pk ns.length h) (W.heap.size, h)
  have hCl := hC.row.lt
  have htl := hTab.lt
  obtain ⟨cC, hcC, _⟩ := hC.row
  have htC : tb ≠ C := by
    intro e
    have ht := hTab
    unfold TabAt at ht
    rw [e, hcC] at ht
    simp at ht
  have hlt : ∀ l ∈ ns, ∀ y ∈ l, y.1 < W.heap.size := fun l hl y hy => (hC.links l hl).lt y hy
  have hq : Qu ((W.alloc (.cells cs0 59)).drewN d) W.heap.size h p6 := ⟨cs0, Deep.blk_alloc_new _ _, hs, h4, h6⟩
  have hC1 : Chs ((W.alloc (.cells cs0 59)).drewN d) C ns := hC.of_blocks (Deep.blk_alloc_lt _ _ _ hCl) (fun l hl y hy => Deep.blk_alloc_lt _ _ _ (hlt l hl y hy))
  have hC2 := hC1.push h0 (x := (W.heap.size, h)) hq (fun l hl y hy => Nat.ne_of_lt (hlt l hl y hy))
  have hT1 : TabAt ((W.alloc (.cells cs0 59)).drewN d) tb (.slice (some ⟨C, 0, none⟩) ns.length ns.length) len := hTab.of_block (Deep.blk_alloc_lt _ _ _ htl)
  generalize hp : pk ns.length h = p at *
  generalize hd (ns.getD p []) = ho at *
  generalize hW1 : (W.alloc (.cells cs0 59)).drewN d = W1 at *
  have hT2 : TabAt ((W1.setCell ⟨W.heap.size, 6, none⟩ (.pointer ho)).setCell ⟨C, p, none⟩ (.pointer (some ⟨W.heap.size, 0, none⟩))) tb (.slice (some ⟨C, 0, none⟩) ns.length ns.length) len :=
    hT1.of_block (by rw [Deep.blk_setCell_other _ _ _ _ (show tb ≠ C from htC), Deep.blk_setCell_other _ _ _ _ (show tb ≠ W.heap.size by omega)])
  have hT3 := hT2.put1 (len + 1) (x := x) hx
  have hfr : Fr tb B W W1 := by rw [← hW1]; exact ((Fr.refl tb B W).alloc _ hB).drewN d
  generalize hW2 : (W1.setCell ⟨W.heap.size, 6, none⟩ (.pointer ho)).setCell ⟨C, p, none⟩ (.pointer (some ⟨W.heap.size, 0, none⟩)) = W2 at *
  have hfr2 : Fr tb B W W2 := by rw [← hW2]; exact (hfr.setCell _ _ (.inl hB)).setCell _ _ (.inl hBC)
  refine ⟨⟨⟨some ⟨C, 0, none⟩, C, by rw [hlen]; exact hT3, (fun e => by omega), fun _ => ⟨rfl, hC2.of_blocks (Deep.blk_setCell_other _ _ _ _ (show C ≠ tb from fun e => htC e.symm)) (fun l hl y hy => Deep.blk_setCell_other _ _ _ _ (show y.1 ≠ tb from (hC2.links l hl).type hT2 (by decide) y hy)), hBC⟩⟩, ?_, fun y hy => ?_, fun y hy => ?_⟩, hlen, hpf, hfr2.setCell _ _ (.inr rfl)⟩
  · refine ((hpf.map Prod.fst).nodup_iff).2 ?_
    rw [List.map_cons, List.nodup_cons]
    refine ⟨fun hm => ?_, hT.nodup⟩
    obtain ⟨y, hy, e⟩ := List.mem_map.1 hm
    obtain ⟨l, hl, hyl⟩ := List.mem_flatten.1 hy
    have := hlt l hl y hyl
    simp only [] at e
    omega
  · rcases List.mem_cons.1 (hpf.mem_iff.1 hy) with rfl | hy
    · exact hB
    · exact hT.own y hy
  · rcases List.mem_cons.1 (hpf.mem_iff.1 hy) with rfl | hy
    · exact hh
    · exact hT.small y hy

theorem add_any (tb B len E h nc : Nat) (s : ByteArray) (cs : List (List Nd)) (w : World) (hT : Tab w tb B len cs) (hB : B ≤ w.heap.size) (hE : Ent w E s) (hh : h < 18446744073709551616) (hlen : len ≤ 8192)
    (hnc : (2 * len < cs.length ∧ nc = cs.length) ∨ (cs.length ≤ 2 * len ∧ ((cs.length = 0 ∧ nc = 8) ∨ (8 ≤ cs.length ∧ nc = 2 * cs.length)))) (hgt : 2 * len < nc) (hbig : nc ≤ 65536) :
    Calls Try.prog 13 #[.pointer (some ⟨tb, 0, none⟩), .pointer (some ⟨E, 0, none⟩), .int .u64 h] w fun e w' => (∃ v, e = .returned v) ∧ ∃ ns q, Tab w' tb B (len + 1) ns ∧ ns.length = nc ∧ ns.flatten.Perm ((q, h) :: cs.flatten) ∧ Fr tb B w w' := by
  have HT0 := hide hT
  have HE0 := hide hE
  have HNC := hide hnc
  obtain ⟨a, C0, hTab, _, hpos⟩ := hT.ex
  have c0 := hTab.c0
  have c1 := hTab.c1
  clear hT hE hTab hpos hnc
  by_cases hgr : cs.length ≤ 2 * len
  · have hgt' : (cs.length : Int) ≤ 2 * (len : Int) := by omega
    go_enter Try.func13, Try.ntmps13
    go_wp2
    go_quiet (fail)
    go_wp2_with fail
    obtain ⟨W0, hW⟩ : ∃ W, W = w.drewN nq := ⟨_, rfl⟩
    have hT0 : Tab W0 tb B len cs := by rw [hW]; exact HT0.out.drewN nq
    have hE0 : Ent W0 E s := by rw [hW]; exact HE0.out
    have hBW0 : B ≤ W0.heap.size := by rw [hW]; exact hB
    have hfr0 : Fr tb B w W0 := by rw [hW]; exact (Fr.refl _ _ _).drewN nq
    rw [← hW]
    have hEt : E ≠ tb := by
      intro e
      obtain ⟨a3, C3, ht, _⟩ := hT0.ex
      unfold TabAt at ht
      unfold Ent at hE0
      rw [e, ht] at hE0
      simp at hE0
    have HGW := hide (grow_any tb B len cs W0 nc hT0 hBW0 (by have := HNC.out; omega) hbig)
    clear hW c0 c1 HT0 HE0 hT0
    refine HGW.out.mono ?_
    rintro e W ⟨rfl, ns, hT, hnl, hperm, hfr1, hkept⟩
    clear HGW
    have hE : Ent W E s := (hkept E _ 31 hE0 (by decide) hEt).trans hE0
    have hBW : B ≤ W.heap.size := Nat.le_trans hBW0 hfr1.size
    have HFR := hide (hfr0.trans hfr1)
    have HPERM := hide hperm
    have HLEN := hide hnl
    have hgt2 : 2 * len < ns.length := by omega
    have hbig2 : ns.length ≤ 65536 := by omega
    clear hkept hE0 hBW0 hfr0 hfr1 hperm hnl
    go_wp2_with fail
    obtain ⟨a2, C, hTab, _, hpos⟩ := hT.ex
    obtain ⟨rfl, hC, hBC⟩ := hpos (by omega)
    have c0 := hTab.c0
    have c1 := hTab.c1
    have c2 := hTab.c2
    have f1 := hTab.fr 1
    have e0 := hE.c0
    have e1 := hE.c1
    have e2 := hE.c2
    have e3 := hE.c3
    have hEl : E < W.heap.size := lt_of_block hE
    have htl : tb < W.heap.size := hTab.lt
    have hCl : C < W.heap.size := hC.row.lt
    have hpl := pk_lt (nc := ns.length) (h := h) (by omega)
    have cN := hC.row.cell hpl
    have fN := hC.row.frozen (pk ns.length h)
    have HT := hide hT
    have HC := hide hC
    have HTAB := hide hTab
    clear hT hC hE hTab hpos
    refine (spare_any tb _ c2).mono ?_
    rintro e w1 ⟨rfl, rfl⟩
    go_wp2_with fail
    refine (chain_any tb len C ns.length ns.length h _ (HTAB.out.of_block (Deep.blk_alloc_lt _ _ _ htl)) (by omega) (by omega) hh).mono ?_
    rintro e w2 ⟨rfl, d, rfl⟩
    have htC : ¬ tb = C := by
      intro e
      obtain ⟨c, hc, _⟩ := HC.out.row
      have ht := HTAB.out
      unfold TabAt at ht
      rw [e, hc] at ht
      simp at ht
    have hCt : ¬ C = tb := fun e => htC e.symm
    have HFIN := hide (fun (cs0 : Array Value) (hs : cs0.size = 31) (h4 : cs0[4]? = some (.int .u64 h)) (h6 : cs0[6]? = some (.pointer none)) => Tab.added (d := d) (x := (len : Int) + 1) HT.out HTAB.out HC.out hBC (by omega) hBW hs h4 h6 hh (by omega))
    generalize pk ns.length h = p at *
    generalize hd (ns.getD p []) = ho at *
    go_wp2
    go_ret
    obtain ⟨g1, g2, g3, g4⟩ := HFIN.out #[.string s, .string { data := #[] }, .slice none 0 0, .bool false, .int .u64 h, .pointer none, .pointer none, .pointer none, .pointer none, .int .i64 0, .int .i64 0, .pointer none, .pointer none, .int .i64 0, .int .i64 0, .int .i64 0, .int .i64 0, .int .i64 0, .int .i64 0, .int .i64 0, .int .i64 0, .int .i64 0, .int .i64 0, .int .i64 0, .int .i64 0, .int .i64 0, .pointer none, .pointer none, .pointer none, .pointer none, .pointer none] rfl rfl rfl
    exact ⟨⟨_, rfl⟩, _, _, g1, g2.trans HLEN.out, g3.trans (HPERM.out.cons _), HFR.out.trans g4⟩
  · have hgt' : ¬ (cs.length : Int) ≤ 2 * (len : Int) := by omega
    go_enter Try.func13, Try.ntmps13
    go_wp2
    go_quiet (fail)
    go_wp2_with fail
    obtain ⟨W, hW⟩ : ∃ W, W = w.drewN nq := ⟨_, rfl⟩
    have hT : Tab W tb B len cs := by rw [hW]; exact HT0.out.drewN nq
    have hE : Ent W E s := by rw [hW]; exact HE0.out
    have hBW : B ≤ W.heap.size := by rw [hW]; exact hB
    have HFR : Hid (Fr tb B w W) := by rw [hW]; exact (Fr.refl _ _ _).drewN nq
    have HPERM : Hid (cs.flatten.Perm cs.flatten) := List.Perm.refl _
    have HLEN : Hid (cs.length = nc) := by have := HNC.out; show cs.length = nc; omega
    have hgt2 : 2 * len < cs.length := by omega
    have hbig2 : cs.length ≤ 65536 := by have := HNC.out; omega
    rw [← hW]
    clear hW c0 c1 HT0 HE0
    obtain ⟨ns, hns⟩ : ∃ ns, ns = cs := ⟨_, rfl⟩
    rw [← hns] at hT HPERM HLEN hgt2 hbig2
    have HNS := hide hns
    clear hns
    obtain ⟨a2, C, hTab, _, hpos⟩ := hT.ex
    obtain ⟨rfl, hC, hBC⟩ := hpos (by omega)
    have c0 := hTab.c0
    have c1 := hTab.c1
    have c2 := hTab.c2
    have f1 := hTab.fr 1
    have e0 := hE.c0
    have e1 := hE.c1
    have e2 := hE.c2
    have e3 := hE.c3
    have hEl : E < W.heap.size := lt_of_block hE
    have htl : tb < W.heap.size := hTab.lt
    have hCl : C < W.heap.size := hC.row.lt
    have hpl := pk_lt (nc := ns.length) (h := h) (by omega)
    have cN := hC.row.cell hpl
    have fN := hC.row.frozen (pk ns.length h)
    have HT := hide hT
    have HC := hide hC
    have HTAB := hide hTab
    clear hT hC hE hTab hpos
    refine (spare_any tb _ c2).mono ?_
    rintro e w1 ⟨rfl, rfl⟩
    go_wp2_with fail
    refine (chain_any tb len C ns.length ns.length h _ (HTAB.out.of_block (Deep.blk_alloc_lt _ _ _ htl)) (by omega) (by omega) hh).mono ?_
    rintro e w2 ⟨rfl, d, rfl⟩
    have htC : ¬ tb = C := by
      intro e
      obtain ⟨c, hc, _⟩ := HC.out.row
      have ht := HTAB.out
      unfold TabAt at ht
      rw [e, hc] at ht
      simp at ht
    have hCt : ¬ C = tb := fun e => htC e.symm
    have HFIN := hide (fun (cs0 : Array Value) (hs : cs0.size = 31) (h4 : cs0[4]? = some (.int .u64 h)) (h6 : cs0[6]? = some (.pointer none)) => Tab.added (d := d) (x := (len : Int) + 1) HT.out HTAB.out HC.out hBC (by omega) hBW hs h4 h6 hh (by omega))
    generalize pk ns.length h = p at *
    generalize hd (ns.getD p []) = ho at *
    go_wp2
    go_ret
    obtain ⟨g1, g2, g3, g4⟩ := HFIN.out #[.string s, .string { data := #[] }, .slice none 0 0, .bool false, .int .u64 h, .pointer none, .pointer none, .pointer none, .pointer none, .int .i64 0, .int .i64 0, .pointer none, .pointer none, .int .i64 0, .int .i64 0, .int .i64 0, .int .i64 0, .int .i64 0, .int .i64 0, .int .i64 0, .int .i64 0, .int .i64 0, .int .i64 0, .int .i64 0, .int .i64 0, .int .i64 0, .pointer none, .pointer none, .pointer none, .pointer none, .pointer none] rfl rfl rfl
    exact ⟨⟨_, rfl⟩, _, _, g1, g2.trans HLEN.out, (by rw [← HNS.out]; exact g3), HFR.out.trans g4⟩

/-- ZZqueueTableAdd. -/
theorem zzadd_any (tb B len E h nc : Nat) (s : ByteArray) (cs : List (List Nd)) (w : World) (hT : Tab w tb B len cs) (hB : B ≤ w.heap.size) (hE : Ent w E s) (hh : h < 18446744073709551616) (hlen : len ≤ 8192)
    (hnc : (2 * len < cs.length ∧ nc = cs.length) ∨ (cs.length ≤ 2 * len ∧ ((cs.length = 0 ∧ nc = 8) ∨ (8 ≤ cs.length ∧ nc = 2 * cs.length)))) (hgt : 2 * len < nc) (hbig : nc ≤ 65536) :
    Calls Try.prog 7 #[.pointer (some ⟨tb, 0, none⟩), .pointer (some ⟨E, 0, none⟩), .int .u64 h] w fun e w' => (∃ v, e = .returned v) ∧ ∃ ns q, Tab w' tb B (len + 1) ns ∧ ns.length = nc ∧ ns.flatten.Perm ((q, h) :: cs.flatten) ∧ Fr tb B w w' := by
  have HA := hide (add_any tb B len E h nc s cs w hT hB hE hh hlen hnc hgt hbig)
  clear hT hB hE hh hlen hnc hgt hbig
  go_enter Try.func7, Try.ntmps7
  go_wp2_with fail
  refine HA.out.mono ?_
  rintro e w' ⟨⟨v, rfl⟩, hr⟩
  go_wp2
  go_ret
  exact ⟨⟨_, rfl⟩, hr⟩

end Go.Proofs.Qxb6615967a
