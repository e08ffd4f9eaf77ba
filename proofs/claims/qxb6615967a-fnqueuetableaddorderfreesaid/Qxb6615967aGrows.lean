/-
  grow: the walk.
-/
import Derived.Test.Qxb6615967aGrow
namespace Go.Proofs.Qxb6615967a
open Go.RowKit

theorem Try.info32 : (Try.prog.info? 32).map (fun i => (i.zero, i.size, i.bytes)) = some (some (.pointer none), 1, 8) := by kernel_rfl

/-- grow's beginning: no new chain holds a queue yet. -/
theorem GS.start {w : World} {tb B len n nc : Nat} {a : Option Addr} {cs : List (List Nd)} (hT : Tab w tb B len cs) (hTab : TabAt w tb (.slice a n n) len) (hB : B ≤ w.heap.size) (hC : ∀ l ∈ cs, Links w l) (o : Value) (ho : o = .slice (some ⟨w.heap.size, 0, none⟩) nc nc) :
    GS w tb B len w.heap.size nc cs.flatten [] cs (List.replicate nc []) ((w.setCell ⟨tb, 0, none⟩ o).alloc (.cells (madeCells #[.pointer none] nc) 32)) := by
  subst ho
  have htb := hTab.lt
  have hsz : (w.setCell ⟨tb, 0, none⟩ (.slice (some ⟨w.heap.size, 0, none⟩) nc nc)).heap.size = w.heap.size := by simp
  have hrow := World.rowIs_made (w.setCell ⟨tb, 0, none⟩ (.slice (some ⟨w.heap.size, 0, none⟩) nc nc)) (.pointer none) nc 32
  rw [hsz] at hrow
  refine ⟨?_, ⟨?_, ?_, ?_⟩, by simp, trivial, ?_, ?_, ?_, ?_, ?_⟩
  · exact (hTab.put0 _).of_block (Deep.blk_alloc_lt _ _ _ (by rw [hsz]; exact htb))
  · rw [List.length_replicate]
    refine hrow.congr (fun k hk => ?_)
    simp [List.getD, hk, hd]
  · intro l hl
    obtain ⟨_, rfl⟩ := List.mem_replicate.1 hl
    trivial
  · intro k hk x hx
    rw [List.length_replicate] at hk
    simp [List.getD, hk] at hx
  · intro l hl
    have hL : Links w l := hC l hl
    refine hL.of_blocks (fun y hy => ?_)
    have hlt := hL.lt y hy
    rw [Deep.blk_alloc_lt _ _ _ (by rw [hsz]; exact hlt), Deep.blk_setCell_other _ _ _ _ (show y.1 ≠ tb from hL.type hTab (by decide) y hy)]
  · have e : (List.replicate nc ([] : List Nd)).flatten = [] := by simp
    rw [e]
    simpa using hT.nodup
  · have e : (List.replicate nc ([] : List Nd)).flatten = [] := by simp
    rw [e]
    simp
  · exact ((Fr.refl tb B w).setCell _ _ (.inr rfl)).alloc _ (by rw [hsz]; exact hB)
  · intro k c t hc ht hk hlt
    rw [Deep.blk_alloc_lt _ _ _ (by rw [hsz]; exact hlt), Deep.blk_setCell_other _ _ _ _ (show k ≠ tb from hk)]

/-- Whatever was there, is no queue and is not the table's own block, is as it was. -/
def Kept (tb : Nat) (w w' : World) : Prop := ∀ k c t, w.heap[k]? = some (.cells c t (0, 0)) → t ≠ 59 → k ≠ tb → w'.heap[k]? = w.heap[k]?

theorem GS.finish {w : World} {tb B len N nc : Nat} {cs ns : List (List Nd)} {wr : World} (h : GS w tb B len N nc cs.flatten [] [] ns wr) (hT : Tab w tb B len cs) (hN : B ≤ N) (h0 : 0 < nc) (hNw : N = w.heap.size) : Tab wr tb B len ns ∧ ns.length = nc ∧ ns.flatten.Perm cs.flatten ∧ Fr tb B w wr ∧ Kept tb w wr := by
  have hp : ns.flatten.Perm cs.flatten := by have := h.perm; simpa using this
  have hl := h.len
  refine ⟨⟨⟨some ⟨N, 0, none⟩, N, by rw [hl]; exact h.tab, (fun e => by omega), fun _ => ⟨rfl, h.chs, hN⟩⟩, ?_, fun x hx => hT.own x (hp.mem_iff.1 hx), fun x hx => hT.small x (hp.mem_iff.1 hx)⟩, hl, hp, h.fr, fun k c t hc ht hk => h.old k c t hc ht hk (by rw [hNw]; exact lt_of_block hc)⟩
  have := h.nd
  simpa using this

theorem GS.mk_finish {w : World} {tb B len N nc : Nat} {cs ns : List (List Nd)} {wr : World} (h : GS w tb B len N nc cs.flatten [] cs ns wr) (hT : Tab w tb B len cs) (h0 : cs = []) (hN : B ≤ N) (hp : 0 < nc) (hNw : N = w.heap.size) : Tab wr tb B len ns ∧ ns.length = nc ∧ ns.flatten.Perm cs.flatten ∧ Fr tb B w wr ∧ Kept tb w wr := by
  subst h0
  exact h.finish hT hN hp hNw

theorem hd_cons (x : Nd) (r : List Nd) : hd (x :: r) = some ⟨x.1, 0, none⟩ := rfl
theorem hd_nil : hd [] = none := rfl
theorem drop_get {cs : List (List Nd)} {y : Nat} (h : y < cs.length) : cs.drop y = cs.getD y [] :: cs.drop (y + 1) := by
  rw [List.drop_eq_getElem_cons h]
  simp [List.getD, h]

theorem grow_any (tb B len : Nat) (cs : List (List Nd)) (w : World) (nc : Nat) (hT : Tab w tb B len cs) (hB : B ≤ w.heap.size) (hnc : (cs.length = 0 ∧ nc = 8) ∨ (8 ≤ cs.length ∧ nc = 2 * cs.length)) (hbig : nc ≤ 65536) :
    Calls Try.prog 17 #[.pointer (some ⟨tb, 0, none⟩)] w fun e w' => e = .returned (.tuple #[]) ∧ ∃ ns, Tab w' tb B len ns ∧ ns.length = nc ∧ ns.flatten.Perm cs.flatten ∧ Fr tb B w w' ∧ Kept tb w w' := by
  obtain ⟨a, C, hTab, hz, hpos⟩ := hT.ex
  have c0 := hTab.c0
  have f0 := hTab.fr 0
  obtain ⟨n, hn⟩ : ∃ n, n = cs.length := ⟨_, rfl⟩
  rw [← hn] at c0 hnc
  have HN := hide hn
  have HZ := hide hz
  have HPOS := hide hpos
  have HT := hide hT
  have hTab' := hTab
  have HTAB := hide hTab
  have htw : tb < w.heap.size := hTab.lt
  clear hn hz hpos hT hTab hTab'
  rcases hnc with ⟨rfl, rfl⟩ | ⟨h8, rfl⟩
  · obtain rfl := HZ.out HN.out.symm
    have hmk : ∀ w, (Instr.makeSlice 41 (.int .i64 8) (.int .i64 8)).run Try.prog w = .ok (.slice (some ⟨w.heap.size, 0, none⟩) 8 8) (w.alloc (.cells (madeCells #[.pointer none] 8) 32)) :=
      run_make_row' (P := Try.prog) 41 32 (.pointer none) 8 Try.underlying41 Try.info32 rfl .i64 .i64 8 (by omega) (by omega)
    go_enter Try.func17, Try.ntmps17
    go_wp2
    refine wp_loop_rounds 1 ?_
    rw [rounds_succ]
    go_wp2
    go_end0
    have h0 : cs = [] := List.length_eq_zero_iff.1 HN.out.symm
    have hTab : TabAt w tb (.slice none 0 0) len := by have := HTAB.out; rwa [← HN.out] at this
    have hs := GS.start (nc := 8) HT.out hTab hB (fun l hl => by rw [h0] at hl; cases hl) _ rfl
    refine ⟨rfl, _, hs.mk_finish HT.out h0 hB (by omega) rfl⟩
  · have hmk := run_make_row' (P := Try.prog) 41 32 (.pointer none) 8 Try.underlying41 Try.info32 rfl .i64 .i64 (2 * n) (by omega) (by omega)
    have ec : ((2 * n : Nat) : Int) = 2 * (n : Int) := by omega
    rw [ec] at hmk
    clear ec
    have h8' : (8 : Int) ≤ 2 * (n : Int) := by omega
    have hn := HN.out
    obtain ⟨rfl, hC, hBC⟩ := HPOS.out (by omega)
    have HS := hide (GS.start (nc := 2 * n) HT.out HTAB.out hB hC.links _ rfl)
    obtain ⟨cC, hcC, hsC, hgC⟩ := hC.row
    have hCw : C < w.heap.size := lt_of_block hcC
    have HCC := hide hcC
    have HROW := hide hC.row
    have hCt : C ≠ tb := by
      intro e
      have ht := HTAB.out
      unfold TabAt at ht
      rw [← e, hcC] at ht
      simp at ht
    clear hn hC hcC hsC hgC HZ HPOS HTAB
    go_enter Try.func17, Try.ntmps17
    go_wp2
    generalize hNe : w.heap.size = N at *
    have HNe := hide hNe
    clear hNe hmk c0 f0
    go_loopg [21] n (fun k iv wr => ∃ y : Nat, k = n - y ∧ y ≤ n ∧ iv = .int .i64 y ∧ ∃ ns, GS w tb B len N (2 * n) cs.flatten [] (cs.drop y) ns wr)
    case atStart => exact ⟨0, rfl, Nat.zero_le _, rfl, _, HS.out⟩
    case round =>
      clear HS
      obtain ⟨y, hk, hy, rfl, ns, hG⟩ := hrel
      have HK := hide hk
      clear hk
      by_cases hlt : y < n
      · have hG' : GS w tb B len N (2 * n) cs.flatten (cs.getD y []) (cs.drop (y + 1)) ns wr := by
          rw [drop_get (show y < cs.length by have := HN.out; omega)] at hG
          exact hG.turn
        have cq : wr.cell? ⟨C, y, none⟩ = some (.pointer (hd (cs.getD y []))) := (HROW.out.of_block (hG.old C cC 32 HCC.out (by decide) hCt hCw)).cell (by have := HN.out; omega)
        generalize cs.getD y [] = l at *
        clear hG
        go_wp2
        go_loopg [4] l.length (fun k2 qv wr2 => ∃ r ns, k2 = r.length ∧ qv = .pointer (hd r) ∧ GS w tb B len N (2 * n) cs.flatten r (cs.drop (y + 1)) ns wr2)
        case atStart => exact ⟨l, ns, rfl, rfl, hG'⟩
        case round =>
          clear hG' cq
          obtain ⟨r, ns, hk, rfl, hG⟩ := hrel
          have HK2 := hide hk
          clear hk
          cases r with
          | nil =>
            rw [hd_nil]
            go_wp2
            go_roundg (n - (y + 1))
            case measure => rw [HK.out]; omega
            case rel => exact ⟨y + 1, rfl, by omega, by go_num, ns, hG⟩
          | cons x r =>
            obtain ⟨xb, xh⟩ := x
            rw [hd_cons]
            have hq : Qu wr xb xh (hd r) := hG.lr.1
            have c4 := hq.c4
            have c6 := hq.c6
            have f6 := hq.f6
            have hmem : (xb, xh) ∈ cs.flatten := hG.perm.mem_iff.1 (by simp)
            have hsm : xh < 18446744073709551616 := HT.out.small _ hmem
            have hown : B ≤ xb := HT.out.own _ hmem
            have hpl := pk_lt (nc := 2 * n) (h := xh) (by omega)
            have cN := hG.chs.row.cell (i := pk (2 * n) xh) (by rw [hG.len]; exact hpl)
            have fN := hG.chs.row.frozen (pk (2 * n) xh)
            have HST := hide (fun d => (hG.drewN d).step (by omega) hB hown)
            have hxN : ¬ xb = N := by
              intro e
              obtain ⟨c1, h1, _⟩ := hq
              obtain ⟨c2, h2, _⟩ := hG.chs.row
              rw [e, h2] at h1
              simp at h1
            have HCH := hide (chain_any tb len N (2 * n) (2 * n) xh wr hG.tab (by omega) (by omega) hsm)
            clear hq hmem hsm hG
            have hNx : ¬ N = xb := fun e => hxN e.symm
            generalize pk (2 * n) xh = p at *
            generalize hd (ns.getD p []) = ho at *
            go_wp2_with fail
            refine HCH.out.mono ?_
            clear HCH
            rintro e w1 ⟨rfl, d, rfl⟩
            go_wp2
            go_roundg r.length
            case measure => rw [HK2.out]; simp
            case rel => exact ⟨r, _, rfl, rfl, HST.out d⟩
      · obtain rfl : y = n := by omega
        go_wp2
        go_end0
        have hG' : GS w tb B len N (2 * y) cs.flatten [] [] ns wr := by
          rw [List.drop_eq_nil_of_le (show cs.length ≤ y by have := HN.out; omega)] at hG
          exact hG
        exact ⟨rfl, ns, hG'.finish HT.out hB (by omega) HNe.out.symm⟩
end Go.Proofs.Qxb6615967a
