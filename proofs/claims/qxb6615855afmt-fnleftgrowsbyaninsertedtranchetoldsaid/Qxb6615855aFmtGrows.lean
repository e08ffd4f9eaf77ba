/-
  THE LAW FnLeftGrowsByAnInsertedTranche: its walk.
-/
import Derived.Test.Qxb6615855aFmtForf
namespace Go.Proofs.Qxb6615855aFmt
open Go.RowKit

def AnyB (_ : Bool) : Prop := True

/-- ZZnewFollower, the new blocks' numbers left open. -/
theorem newFol_ex (bt : Bool) (st : Int) (a : Option Addr) (n c D m : Nat) (S : Nat → ByteArray) (w : World) (hm : m ≤ 65536) (hrow : w.rowIs D 9 m (fun j => .string (S j))) :
    Calls Tryf.prog 12 #[.bool bt, .int .i64 st, .slice a n c, .slice (some ⟨D, 0, none⟩) m m] w fun e w' => ∃ Q H, e = .returned (.pointer (some ⟨Q, 0, none⟩)) ∧ Fo w' Q bt st (.slice a n c) H m ∧ Below w.heap.size w w' := by
  refine (newFol_any bt st a n c D m S w hm hrow).mono ?_
  rintro e w' ⟨rfl, hF, hb⟩
  exact ⟨_, _, rfl, hF, hb⟩

theorem rowIs_one (w : World) (s : ByteArray) : (w.alloc (.cells #[.string s] 9)).rowIs w.heap.size 9 1 (fun _ => .string s) :=
  World.rowIs_alloc w #[.string s] 9 (fun _ => .string s) (fun i hi => by have : i = 0 := by simp at hi; omega
                                                                          subst this; rfl)

theorem bytes16_any (s : ByteArray) (a : Option Addr) (n c : Nat) (v p : Int) (w : World) (hs : s.size ≤ maxLen) (hn : n ≤ maxLen) :
    Calls Tryf.prog 16 #[.string s, .slice a n c, .int .i64 v, .int .i64 p] w (Says AnyB w) := by
  unfold maxLen at hs hn
  by_cases h1 : 1048576 < s.size
  · go_enter Tryf.func16, Tryf.ntmps16
    go_wp2
    go_ret
    exact ⟨⟨false, rfl, trivial⟩, rfl⟩
  by_cases h2 : 1048576 < n
  · go_enter Tryf.func16, Tryf.ntmps16
    go_wp2
    go_ret
    exact ⟨⟨false, rfl, trivial⟩, rfl⟩
  by_cases h3 : 1048576 < s.size + n
  · go_enter Tryf.func16, Tryf.ntmps16
    go_wp2
    go_ret
    exact ⟨⟨false, rfl, trivial⟩, rfl⟩
  · go_enter Tryf.func16, Tryf.ntmps16
    go_wp2
    go_ret
    exact ⟨⟨true, rfl, trivial⟩, rfl⟩

/-! ### The plain law: one number put in -/
/-- The numbers with v put in at place p. -/
def putIn (n : Nat) (zs : List Int) (v : Int) (p : Nat) : List Int := (List.range (n + 1)).map (fun j => if j < p then zs.getD j 0 else if j = p then v else zs.getD (j - 1) 0)
theorem putIn_get {n : Nat} {zs : List Int} {v : Int} {p j : Nat} (hj : j < n + 1) : (putIn n zs v p).getD j 0 = if j < p then zs.getD j 0 else if j = p then v else zs.getD (j - 1) 0 := by
  simp [putIn, List.getD, hj]

theorem tot_below (ys : Nat → Int) (v : Int) (p : Nat) : ∀ k, k ≤ p → tot (fun j => if j < p then ys j else if j = p then v else ys (j - 1)) k = tot ys k
  | 0, _ => rfl
  | k + 1, h => by
    show tot _ k + (if k < p then ys k else if k = p then v else ys (k - 1)) = tot ys k + ys k
    rw [tot_below ys v p k (by omega), if_pos (by omega)]
theorem tot_above (ys : Nat → Int) (v : Int) (p : Nat) : ∀ d, tot (fun j => if j < p then ys j else if j = p then v else ys (j - 1)) (p + d + 1) = tot ys (p + d) + v
  | 0 => by
    show tot _ (p + 0) + (if p + 0 < p then ys (p + 0) else if p + 0 = p then v else ys (p + 0 - 1)) = _
    rw [tot_below ys v p (p + 0) (by omega), if_neg (by omega), if_pos (by omega)]
  | d + 1 => by
    show tot _ (p + d + 1) + (if p + d + 1 < p then ys (p + d + 1) else if p + d + 1 = p then v else ys (p + d + 1 - 1)) = tot ys (p + d) + ys (p + d) + v
    rw [tot_above ys v p d, if_neg (by omega), if_neg (by omega)]
    simp only [Nat.add_sub_cancel]
    omega
theorem tot_putIn {n : Nat} {zs : List Int} {v : Int} {p : Nat} (hp : p ≤ n) : tot (ysOf (putIn n zs v p) 0) (n + 1) = tot (ysOf zs 0) n + v := by
  have h := tot_above (ysOf zs 0) v p (n - p)
  rw [show p + (n - p) = n by omega] at h
  rw [← h]
  refine tot_congr (fun j hj => ?_)
  unfold ysOf
  rw [Nat.zero_add, putIn_get hj]
  simp

/-- The law's law. -/
theorem grows_law {n : Nat} {zs : List Int} {v : Int} {p : Nat} (hp : p ≤ n) (h0 : ∀ j, j < n → 0 ≤ zs.getD j 0) (hv : 0 ≤ v) :
    (top < tot (ysOf zs 0) n ∧ leftV true zs 0 n = 0 ∧ leftOk true zs 0 n = false ∧ leftV true (putIn n zs v p) 0 (n + 1) = 0 ∧ leftOk true (putIn n zs v p) 0 (n + 1) = false) ∨
    (0 ≤ tot (ysOf zs 0) n ∧ tot (ysOf zs 0) n ≤ top ∧ top - v < tot (ysOf zs 0) n ∧ leftV true zs 0 n = tot (ysOf zs 0) n ∧ leftOk true zs 0 n = true ∧ leftV true (putIn n zs v p) 0 (n + 1) = 0 ∧ leftOk true (putIn n zs v p) 0 (n + 1) = false) ∨
    (0 ≤ tot (ysOf zs 0) n ∧ tot (ysOf zs 0) n ≤ top ∧ ¬ top - v < tot (ysOf zs 0) n ∧ leftV true zs 0 n = tot (ysOf zs 0) n ∧ leftOk true zs 0 n = true ∧ leftV true (putIn n zs v p) 0 (n + 1) = tot (ysOf zs 0) n + v ∧ leftOk true (putIn n zs v p) 0 (n + 1) = true) := by
  have hn : 0 ≤ tot (ysOf zs 0) n := tot_nonneg (fun j hj => by unfold ysOf; rw [Nat.zero_add]; exact h0 j hj)
  have ht := tot_putIn (zs := zs) (v := v) hp
  have e1 : ∀ ys k, leftV true ys 0 k = sumV (ysOf ys 0) k := fun _ _ => rfl
  have e2 : ∀ ys k, leftOk true ys 0 k = okSum (ysOf ys 0) k := fun _ _ => rfl
  rw [e1, e2, e1, e2]
  by_cases c1 : tot (ysOf zs 0) n ≤ top
  · obtain ⟨a1, a2⟩ := sum_ok c1
    by_cases c2 : tot (ysOf zs 0) n + v ≤ top
    · obtain ⟨b1, b2⟩ := sum_ok (ys := ysOf (putIn n zs v p) 0) (n := n + 1) (by rw [ht]; exact c2)
      exact .inr (.inr ⟨hn, c1, by omega, a1, a2, by rw [b1, ht], b2⟩)
    · obtain ⟨b1, b2⟩ := sum_no (ys := ysOf (putIn n zs v p) 0) (n := n + 1) (by rw [ht]; omega)
      exact .inr (.inl ⟨hn, c1, by omega, a1, a2, b1, b2⟩)
  · obtain ⟨a1, a2⟩ := sum_no (ys := ysOf zs 0) (n := n) (by omega)
    obtain ⟨b1, b2⟩ := sum_no (ys := ysOf (putIn n zs v p) 0) (n := n + 1) (by rw [ht]; omega)
    exact .inl ⟨by omega, a1, a2, b1, b2⟩

/-! ### The walk -/
set_option maxHeartbeats 4000000 in
theorem grows_any (F : Go.Stop.Interp) (s : ByteArray) (a : Option Addr) (n c b off : Nat) (zs : List Int) (v p : Int) (w : World) (hF : F.answers w.tape) (hs : s.size ≤ maxLen) (hnm : n ≤ maxLen) (hA : At w a n b off (fun j => .int .i64 (zs.getD j 0))) (ha : a = none → n = 0)
    (hbd : ∀ j, j < n → zs.getD j 0 ≤ top) (hv1 : v ≤ top) :
    Calls Tryf.prog 4 #[.string s, .slice a n c, .int .i64 v, .int .i64 p] w fun e w' => e = .returned (.bool true) ∧ Below w.heap.size w w' := by
  have H16 := hide (bytes16_any s a n c v p w hs hnm)
  have HBD := hide hbd
  unfold maxLen at hs hnm
  clear hbd
  go_enter Tryf.func4, Tryf.ntmps4
  go_wp2_with fail
  refine H16.out.mono ?_
  rintro e w0 ⟨⟨r, rfl, _⟩, rfl⟩
  clear H16
  cases r with
  | false =>
    go_wp2
    go_ret
    exact ⟨rfl, Below.refl _ _⟩
  | true =>
  by_cases h1 : 65536 < n
  · go_wp2
    go_ret
    exact ⟨rfl, Below.refl _ _⟩
  by_cases h2 : 65536 < s.size
  · go_wp2
    go_ret
    exact ⟨rfl, Below.refl _ _⟩
  by_cases h3 : p < 0
  · go_wp2
    go_ret
    exact ⟨rfl, Below.refl _ _⟩
  by_cases h4 : (n : Int) < p
  · go_wp2
    go_ret
    exact ⟨rfl, Below.refl _ _⟩
  by_cases h5 : v < 0
  · go_wp2
    go_ret
    exact ⟨rfl, Below.refl _ _⟩
  have HNN := hide (allNN_any a n c b off zs w0 (by omega) hA)
  go_wp2_with fail
  refine HNN.out.mono ?_
  rintro e w1 ⟨⟨r, rfl, hr⟩, rfl⟩
  clear HNN
  cases r with
  | false =>
    go_wp2
    go_ret
    exact ⟨rfl, Below.refl _ _⟩
  | true =>
  have HP := hide (hr rfl)
  clear hr
  have HCL := hide (clone_any a n c b off zs w1 (by omega) hA ha)
  clear hA ha
  go_wp2_with fail
  refine HCL.out.mono ?_
  rintro e w2 ⟨a1, rfl, ha1, hO1, hb1⟩
  have hG1 : 0 < n → w1.heap.size < w2.heap.size := hO1.lt
  have HA1 := hide ha1
  clear HCL ha1
  obtain ⟨p, rfl⟩ := Int.eq_ofNat_of_zero_le (show 0 ≤ p by omega)
  have hmk := run_make_row' (P := Tryf.prog) 22 2 (.int .i64 0) 8 Tryf.underlying22 Tryf.info2 rfl .i64 .i64 (n + 1) (by omega) (by omega)
  have ec : ((n + 1 : Nat) : Int) = (n : Int) + 1 := by omega
  rw [ec] at hmk
  clear ec
  go_wp2
  clear hmk
  have hpn : p ≤ n := by omega
  generalize hG1e : w1.heap.size = G1 at *
  have HG1 := hide hG1e
  clear hG1e
  go_loopg [10] p (fun k i wr => ∃ q : Nat, k = p - q ∧ q ≤ p ∧ i = .int .i64 q ∧ wr.rowIs w2.heap.size 2 (n + 1) (fun j => if j < q then .int .i64 (zs.getD j 0) else .int .i64 0) ∧ Below w2.heap.size w2 wr)
  case atStart =>
    refine ⟨0, rfl, Nat.zero_le _, rfl, ?_, (Below.refl _ _).alloc (Nat.le_refl _) _⟩
    exact (World.rowIs_made w2 (.int .i64 0) (n + 1) 2).congr (fun i _ => by simp)
  case round =>
    obtain ⟨q, hk, hqn, rfl, hrow, hbel⟩ := hrel
    have HK := hide hk
    clear hk
    by_cases hlt : q < p
    · obtain ⟨rfl, hr1⟩ := hO1 (by omega)
      have ct := (hr1.of_block (hbel.block G1 (hG1 (by omega)))).cell (show q < n by omega)
      have HZ : Hid (∀ j, j < q + 1 → (if j = q then (.int .i64 (zs.getD q 0) : Value) else if j < q then .int .i64 (zs.getD j 0) else .int .i64 0) = .int .i64 (zs.getD j 0)) := by
        intro j hj
        by_cases e : j = q
        · rw [if_pos e, e]
        · rw [if_neg e, if_pos (by omega)]
      have co : wr.cell? ⟨w2.heap.size, q, none⟩ = some (.int .i64 0) := by have := hrow.cell (show q < n + 1 by omega); simpa using this
      have fo := hrow.frozen q
      have HS : Hid (∀ u, (wr.setCell ⟨w2.heap.size, q, none⟩ u).rowIs w2.heap.size 2 (n + 1) (fun j => if j = q then u else if j < q then .int .i64 (zs.getD j 0) else .int .i64 0)) := fun u => hrow.set q u
      clear hrow hr1 hO1
      obtain ⟨z, hz⟩ : ∃ z, zs.getD q 0 = z := ⟨_, rfl⟩
      rw [hz] at ct HZ
      clear hz
      go_wp2
      go_roundg (p - (q + 1))
      case measure => rw [HK.out]; omega
      case rel =>
        refine ⟨q + 1, rfl, by omega, by go_num, (HS.out _).congr (fun j hj => ?_), hbel.setCell (Nat.le_refl _) _⟩
        by_cases e : j < q + 1
        · rw [if_pos e]; exact HZ.out j e
        · rw [if_neg e, if_neg (by omega), if_neg (by omega)]
    · obtain rfl : q = p := by omega
      clear hlt hqn
      have co : wr.cell? ⟨w2.heap.size, q, none⟩ = some (.int .i64 0) := by have := hrow.cell (show q < n + 1 by omega); simpa using this
      have fo := hrow.frozen q
      have hset := hrow.set q (.int .i64 v)
      clear hrow
      go_wp2
      have hbel2 := hbel.setCell (p := ⟨w2.heap.size, q, none⟩) (Nat.le_refl _) (.int .i64 v)
      go_loopg [11] (n - q) (fun k i wr => ∃ r : Nat, k = n - r ∧ q ≤ r ∧ r ≤ n ∧ i = .int .i64 r ∧ wr.rowIs w2.heap.size 2 (n + 1) (fun j => if j < q then .int .i64 (zs.getD j 0) else if j = q then .int .i64 v else if j ≤ r then .int .i64 (zs.getD (j - 1) 0) else .int .i64 0) ∧ Below w2.heap.size w2 wr)
      case atStart =>
        refine ⟨q, rfl, Nat.le_refl _, hpn, rfl, hset.congr (fun j hj => ?_), hbel2⟩
        by_cases e : j = q
        · subst e; simp
        · by_cases e2 : j < q
          · simp [e, e2]
          · simp [e, e2, show ¬ j ≤ q by omega]
      case round =>
        clear hset hbel hbel2 co fo HK
        obtain ⟨r, hk, hqr, hrn, rfl, hrow, hbel⟩ := hrel
        have HK := hide hk
        clear hk
        by_cases hlt : r < n
        · obtain ⟨rfl, hr1⟩ := hO1 (by omega)
          have ct := (hr1.of_block (hbel.block G1 (hG1 (by omega)))).cell hlt
          have co : wr.cell? ⟨w2.heap.size, r + 1, none⟩ = some (.int .i64 0) := by
            have := hrow.cell (show r + 1 < n + 1 by omega)
            simpa [show ¬ r + 1 < q by omega, show ¬ r + 1 = q by omega, show ¬ r + 1 ≤ r by omega] using this
          have fo := hrow.frozen (r + 1)
          have HR := hide hrow
          obtain ⟨z, hz⟩ : ∃ z, zs.getD r 0 = z := ⟨_, rfl⟩
          rw [hz] at ct
          have HZ := hide hz
          clear hz hrow hr1 hO1
          go_wp2
          go_roundg (n - (r + 1))
          case measure => rw [HK.out]; omega
          case rel =>
            refine ⟨r + 1, rfl, by omega, by omega, by go_num, (HR.out.set (r + 1) _).congr (fun j hj => ?_), hbel.setCell (Nat.le_refl _) _⟩
            by_cases e : j = r + 1
            · subst e
              simp only [if_true, show ¬ r + 1 < q by omega, show ¬ r + 1 = q by omega, if_false, Nat.le_refl, Nat.add_sub_cancel]
              rw [HZ.out]
            · simp only [if_neg e]
              by_cases e1 : j < q
              · simp [e1]
              · by_cases e2 : j = q
                · simp [e2]
                · by_cases e3 : j ≤ r
                  · simp [e1, e2, e3, show j ≤ r + 1 by omega]
                  · simp [e1, e2, e3, show ¬ j ≤ r + 1 by omega]
        · obtain rfl : r = n := by omega
          have hrow2 : wr.rowIs w2.heap.size 2 (r + 1) (fun j => .int .i64 ((putIn r zs v q).getD j 0)) := hrow.congr (fun j hj => by
            rw [putIn_get hj]
            by_cases e1 : j < q
            · simp [e1]
            · by_cases e2 : j = q
              · simp [e2]
              · simp [e1, e2, show j ≤ r by omega])
          have HR := hide hrow2
          clear hrow hrow2 HK
          have hO1' := hO1.keep hbel hG1
          have hG2 := HR.out.lt
          have HC2 := hide (clone_any a1 r r G1 0 zs wr (by omega) hO1'.at HA1.out)
          have hbw : Below G1 w1 wr := hb1.trans (hbel.mono (by have := hb1.size; have := HG1.out; omega))
          clear hO1 hO1' hb1 hbel
          go_wp2_with fail
          refine HC2.out.mono ?_
          rintro e w3 ⟨a3, rfl, _, hO3, hb3⟩
          have hG3 : 0 < r → wr.heap.size < w3.heap.size := hO3.lt
          have hR3 : w3.rowIs w2.heap.size 2 (r + 1) (fun j => .int .i64 ((putIn r zs v q).getD j 0)) := HR.out.of_block (hb3.block _ hG2)
          have hbw3 : Below G1 w1 w3 := hbw.trans (hb3.mono (by have := hbw.size; have := HG1.out; omega))
          have h3s : wr.heap.size ≤ w3.heap.size := hb3.size
          clear hbw hb3 HC2 HR
          have HN1 := hide (newFol_ex true r a3 r r w3.heap.size 1 (fun _ => s) _ (by omega) (rowIs_one w3 s))
          have hO4 : Ow (w3.alloc (.cells #[.string s] 9)) a3 r wr.heap.size zs := fun h => ⟨(hO3 h).1, (hO3 h).2.alloc _⟩
          have hR4 := hR3.alloc (.cells #[.string s] 9)
          have hb4 : Below G1 w1 (w3.alloc (.cells #[.string s] 9)) := hbw3.alloc (by have := hbw3.size; have := HG1.out; omega) _
          have hs4 : (w3.alloc (.cells #[.string s] 9)).heap.size = w3.heap.size + 1 := by simp
          have HS4 := hide hs4
          clear hO3 hR3 hbw3 hs4
          go_wp2_with fail
          refine HN1.out.mono ?_
          clear HN1
          generalize (w3.alloc (.cells #[.string s] 9)) = w4 at *
          rintro e w5 ⟨Q, H, rfl, hF5, hb5⟩
          have hO5 : Ow w5 a3 r wr.heap.size zs := hO4.keep hb5 hO4.lt
          have hR5 := hR4.of_block (hb5.block _ hR4.lt)
          have hb5' : Below G1 w1 w5 := hb4.trans (hb5.mono (by have := hb4.size; have := HG1.out; omega))
          clear hO4 hR4 hb4 hb5
          have hS1 : Str true zs r 0 r 0 := ⟨by omega, by omega, by simp, by simp, by omega, (fun h => by cases h), (fun _ => HP.out), HBD.out⟩
          have HL1 : Hid (Calls Tryf.prog 13 #[.pointer (some ⟨Q, 0, none⟩), .int .i64 0] w5 (LeftIs (leftV true zs 0 r) (leftOk true zs 0 r) w5.heap.size w5)) :=
            zzleft_any F true Q H 1 r 0 r 0 wr.heap.size a3 zs w5 (by rw [hb5'.tape]; exact hF) (by omega) hS1 hO5 hF5
          have HGL := hide (grows_law (zs := zs) (v := v) hpn HP.out h5)
          clear hS1 hO5 hF5
          go_wp2_with fail
          refine HL1.out.mono ?_
          rintro e w6 ⟨⟨er1, rfl, he1⟩, hb6⟩
          have hR6 := hR5.of_block (hb6.block _ hR5.lt)
          have hb6' : Below G1 w1 w6 := hb5'.trans (hb6.mono (by have := hb5'.size; have := HG1.out; omega))
          clear HL1 hR5 hb5' hb6
          have HN2 := hide (newFol_ex true (r + 1) (some ⟨w2.heap.size, 0, none⟩) (r + 1) (r + 1) w6.heap.size 1 (fun _ => s) _ (by omega) (rowIs_one w6 s))
          have hR7 := hR6.alloc (.cells #[.string s] 9)
          have hb7 : Below G1 w1 (w6.alloc (.cells #[.string s] 9)) := hb6'.alloc (by have := hb6'.size; have := HG1.out; omega) _
          clear hR6 hb6'
          go_wp2_with fail
          refine HN2.out.mono ?_
          clear HN2
          generalize (w6.alloc (.cells #[.string s] 9)) = w7 at *
          rintro e w8 ⟨Q2, H2, rfl, hF8, hb8⟩
          have hR8 := hR7.of_block (hb8.block _ hR7.lt)
          have hb8' : Below G1 w1 w8 := hb7.trans (hb8.mono (by have := hb7.size; have := HG1.out; omega))
          clear hR7 hb7 hb8
          rw [show (r : Int) + 1 = ((r + 1 : Nat) : Int) by omega] at hF8
          have hS2 : Str true (putIn r zs v q) (r + 1) 0 (r + 1) 0 := by
            refine ⟨by omega, by omega, by simp, by simp, by omega, (fun h => by cases h), (fun _ j hj => ?_), fun j hj => ?_⟩
            · rw [putIn_get hj]
              split
              · exact HP.out j (by omega)
              · split
                · exact h5
                · exact HP.out _ (by omega)
            · rw [putIn_get hj]
              split
              · exact HBD.out j (by omega)
              · split
                · exact hv1
                · exact HBD.out _ (by omega)
          have HL2 : Hid (Calls Tryf.prog 13 #[.pointer (some ⟨Q2, 0, none⟩), .int .i64 0] w8 (LeftIs (leftV true (putIn r zs v q) 0 (r + 1)) (leftOk true (putIn r zs v q) 0 (r + 1)) w8.heap.size w8)) :=
            zzleft_any F true Q2 H2 1 (r + 1) 0 (r + 1) 0 w2.heap.size (some ⟨w2.heap.size, 0, none⟩) (putIn r zs v q) w8 (by rw [hb8'.tape]; exact hF) (by omega) hS2 (fun _ => ⟨rfl, hR8⟩) hF8
          clear hS2 hR8 hF8
          generalize leftV true (putIn r zs v q) 0 (r + 1) = v2 at *
          generalize leftOk true (putIn r zs v q) 0 (r + 1) = ok2 at *
          generalize leftV true zs 0 r = v1 at *
          generalize leftOk true zs 0 r = ok1 at *
          generalize tot (ysOf zs 0) r = t at *
          go_wp2_with fail
          refine HL2.out.mono ?_
          clear HL2
          rintro e w9 ⟨⟨er2, rfl, he2⟩, hb9⟩
          have HB : Hid (Below w1.heap.size w1 w9) := by rw [HG1.out]; exact hb8'.trans (hb9.mono (by have := hb8'.size; have := HG1.out; omega))
          clear hb8' hb9
          unfold top at HGL hv1
          rcases HGL.out with ⟨_, rfl, rfl, rfl, rfl⟩ | ⟨ht0, ht1, ht2, rfl, rfl, rfl, rfl⟩ | ⟨ht0, ht1, ht2, rfl, rfl, rfl, rfl⟩
          · obtain ⟨p1, rfl⟩ := he1.no rfl
            obtain ⟨p2, rfl⟩ := he2.no rfl
            clear he1 he2 HGL
            go_wp2
            go_ret
            exact ⟨rfl, HB.out⟩
          · obtain rfl := he1.yes rfl
            obtain ⟨p2, rfl⟩ := he2.no rfl
            clear he1 he2 HGL
            go_wp2
            go_ret
            exact ⟨rfl, HB.out⟩
          · obtain rfl := he1.yes rfl
            obtain rfl := he2.yes rfl
            clear he1 he2 HGL
            go_wp2
            go_ret
            exact ⟨rfl, HB.out⟩

end Go.Proofs.Qxb6615855aFmt
