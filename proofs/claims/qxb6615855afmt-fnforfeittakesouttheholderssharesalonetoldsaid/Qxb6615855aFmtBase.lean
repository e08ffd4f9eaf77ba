/-
  THE SMALL FUNCTIONS OF THE LAWS OVER internal/holding: contracts.
-/
import Derived.Test.Qxb6615855aFmtFacts
import Derived.Lib.SliceRun
namespace Go.Proofs.Qxb6615855aFmt
open Go.RowKit

theorem hide {p : Prop} (h : p) : Hid p := h

theorem Tryf.info2 : (Tryf.prog.info? 2).map (fun i => (i.zero, i.size, i.bytes)) = some (some (.int .i64 0), 1, 8) := by kernel_rfl
theorem Tryf.info9 : (Tryf.prog.info? 9).map (fun i => (i.zero, i.size, i.bytes)) = some (some (.string ByteArray.empty), 1, 16) := by kernel_rfl

/-- A slice of n one-cell elements: where it has an element it begins at ⟨b, off⟩, and element j is f j. -/
def At (w : World) (a : Option Addr) (n b off : Nat) (f : Nat → Value) : Prop := (0 < n → a = some ⟨b, off, none⟩) ∧ ∀ j, j < n → w.cell? ⟨b, off + j, none⟩ = some (f j)

theorem At.keep {w w' : World} {a : Option Addr} {n b off : Nat} {f : Nat → Value} (h : At w a n b off f) {B : Nat} (hb : Below B w w') (hB : 0 < n → b < B) : At w' a n b off f :=
  ⟨h.1, fun j hj => (hb.cell (p := ⟨b, off + j, none⟩) (hB (by omega))).trans (h.2 j hj)⟩

theorem At.lt {w : World} {a : Option Addr} {n b off : Nat} {f : Nat → Value} (h : At w a n b off f) (h0 : 0 < n) : b < w.heap.size := block_lt_of_cell (h.2 0 h0)

/-- A product of two bounded numbers. -/
theorem mul_bd {a b A B : Int} (ha : 0 ≤ a) (hA : a ≤ A) (hb : 0 ≤ b) (hB : b ≤ B) : 0 ≤ a * b ∧ a * b ≤ A * B :=
  ⟨Int.mul_nonneg ha hb, Int.mul_le_mul hA hB hb (by omega)⟩

/-- A call that answers one bool, of which P is known, and leaves the world as it was. -/
structure Says (P : Bool → Prop) (w : World) (e : Ending) (w' : World) : Prop where
  says : ∃ r : Bool, e = .returned (.bool r) ∧ P r
  same : w' = w

/-! ### allNonNegative -/
def NNP (n : Nat) (zs : List Int) (r : Bool) : Prop := r = true → ∀ j, j < n → 0 ≤ zs.getD j 0
theorem allNN_any (a : Option Addr) (n c b off : Nat) (zs : List Int) (w : World) (hn : n ≤ 65536) (hA : At w a n b off (fun j => .int .i64 (zs.getD j 0))) :
    Calls Tryf.prog 9 #[.slice a n c] w (Says (NNP n zs) w) := by
  go_enter Tryf.func9, Tryf.ntmps9
  go_wp2
  go_loopg [3] n (fun k i wr => w = wr ∧ ∃ q : Nat, k = n - q ∧ q ≤ n ∧ i = .int .i64 q ∧ ∀ j, j < q → 0 ≤ zs.getD j 0)
  case atStart => exact ⟨rfl, 0, rfl, Nat.zero_le _, rfl, fun j h => absurd h (by omega)⟩
  case round =>
    obtain ⟨rfl, q, hk, hq, rfl, hp⟩ := hrel
    have HK := hide hk
    have HP := hide hp
    clear hk hp
    by_cases hlt : q < n
    · obtain rfl := hA.1 (by omega)
      obtain ⟨z, hz⟩ : ∃ z, z = zs.getD q 0 := ⟨_, rfl⟩
      have ct := hA.2 q hlt
      simp only [] at ct
      rw [← hz] at ct
      have HZ := hide hz
      clear hz hA
      by_cases hneg : z < 0
      · go_wp2
        go_ret
        exact ⟨⟨false, rfl, (fun h => by cases h)⟩, rfl⟩
      · go_wp2
        go_roundg (n - (q + 1))
        case measure => rw [HK.out]; omega
        case rel =>
          refine ⟨rfl, q + 1, rfl, by omega, by go_num, fun j hj => ?_⟩
          by_cases e : j = q
          · subst e; rw [← HZ.out]; omega
          · exact HP.out j (by omega)
    · obtain rfl : q = n := by omega
      go_wp2
      go_ret
      exact ⟨⟨true, rfl, fun _ => HP.out⟩, rfl⟩

/-! ### holderInRange -/
def InR (bt : Bool) (st n m i : Int) (r : Bool) : Prop := r = true → 0 ≤ st ∧ st ≤ 65536 ∧ 0 ≤ i ∧ i ≤ 65536 ∧ i < m ∧ (i + 1) * st ≤ n ∧ (bt = false → 2 ≤ st)
theorem inRange_any (bt : Bool) (st n m i : Int) (w : World) :
    Calls Tryf.prog 8 #[.bool bt, .int .i64 st, .int .i64 n, .int .i64 m, .int .i64 i] w (Says (InR bt st n m i) w) := by
  by_cases h1 : 0 ≤ st ∧ st ≤ 65536 ∧ 0 ≤ i ∧ i ≤ 65536
  · obtain ⟨g1, g2, g3, g4⟩ := h1
    obtain ⟨p1, p2⟩ := mul_bd (a := i + 1) (b := st) (A := 65537) (B := 65536) (by omega) (by omega) g1 g2
    by_cases h2 : m ≤ i
    · go_enter Tryf.func8, Tryf.ntmps8
      go_wp2
      go_ret
      exact ⟨⟨false, rfl, (fun h => by cases h)⟩, rfl⟩
    by_cases h3 : n < (i + 1) * st
    · go_enter Tryf.func8, Tryf.ntmps8
      go_wp2
      go_ret
      exact ⟨⟨false, rfl, (fun h => by cases h)⟩, rfl⟩
    cases bt with
    | true =>
      go_enter Tryf.func8, Tryf.ntmps8
      go_wp2
      go_ret
      exact ⟨⟨true, rfl, (fun _ => ⟨g1, g2, g3, g4, by omega, by omega, (fun h => by cases h)⟩)⟩, rfl⟩
    | false =>
      by_cases h4 : st < 2
      · go_enter Tryf.func8, Tryf.ntmps8
        go_wp2
        go_ret
        exact ⟨⟨false, rfl, (fun h => by cases h)⟩, rfl⟩
      · go_enter Tryf.func8, Tryf.ntmps8
        go_wp2
        go_ret
        exact ⟨⟨true, rfl, (fun _ => ⟨g1, g2, g3, g4, by omega, by omega, (fun _ => by omega)⟩)⟩, rfl⟩
  · by_cases c1 : st < 0
    · go_enter Tryf.func8, Tryf.ntmps8
      go_wp2
      go_ret
      exact ⟨⟨false, rfl, (fun h => by cases h)⟩, rfl⟩
    by_cases c2 : 65536 < st
    · go_enter Tryf.func8, Tryf.ntmps8
      go_wp2
      go_ret
      exact ⟨⟨false, rfl, (fun h => by cases h)⟩, rfl⟩
    by_cases c3 : i < 0
    · go_enter Tryf.func8, Tryf.ntmps8
      go_wp2
      go_ret
      exact ⟨⟨false, rfl, (fun h => by cases h)⟩, rfl⟩
    by_cases c4 : 65536 < i
    · go_enter Tryf.func8, Tryf.ntmps8
      go_wp2
      go_ret
      exact ⟨⟨false, rfl, (fun h => by cases h)⟩, rfl⟩
    omega

/-! ### cloneInt64s -/
theorem clone_nil (n c : Nat) (w : World) :
    Calls Tryf.prog 10 #[.slice none n c] w fun e w' => e = .returned (.slice none 0 0) ∧ w' = w := by
  have hnil := fun w => Lib.run_eql_slice_nil (P := Tryf.prog) w 22 2 none n c 0 0 Tryf.underlying22
  go_enter Tryf.func10, Tryf.ntmps10
  go_wp2
  go_ret
  exact ⟨rfl, rfl⟩

theorem clone_some (x : Addr) (n c b off : Nat) (zs : List Int) (w : World) (hn : n ≤ 65536) (hA : At w (some x) n b off (fun j => .int .i64 (zs.getD j 0))) :
    Calls Tryf.prog 10 #[.slice (some x) n c] w fun e w' => e = .returned (.slice (some ⟨w.heap.size, 0, none⟩) n n) ∧
      w'.rowIs w.heap.size 2 n (fun j => .int .i64 (zs.getD j 0)) ∧ Below w.heap.size w w' := by
  have hnil := fun w => Lib.run_eql_slice_nil (P := Tryf.prog) w 22 2 (some x) n c 0 0 Tryf.underlying22
  have hmk := run_make_row' (P := Tryf.prog) 22 2 (.int .i64 0) 8 Tryf.underlying22 Tryf.info2 rfl .i64 .i64 n (by omega) (by omega)
  have hbl : 0 < n → b < w.heap.size := hA.lt
  go_enter Tryf.func10, Tryf.ntmps10
  go_wp2
  go_loopg [4] n (fun k i wr => ∃ q : Nat, k = n - q ∧ q ≤ n ∧ i = .int .i64 q ∧ wr.rowIs w.heap.size 2 n (fun j => if j < q then .int .i64 (zs.getD j 0) else .int .i64 0) ∧ Below w.heap.size w wr)
  case atStart =>
    refine ⟨0, rfl, Nat.zero_le _, rfl, ?_, (Below.refl _ _).alloc (Nat.le_refl _) _⟩
    exact (World.rowIs_made w (.int .i64 0) n 2).congr (fun i _ => by simp)
  case round =>
    obtain ⟨q, hk, hqn, rfl, hrow, hbel⟩ := hrel
    have HK := hide hk
    clear hk hnil hmk
    by_cases hlt : q < n
    · have hA' := hA.keep hbel hbl
      have hx := hA.1 (by omega)
      simp only [Option.some.injEq] at hx
      subst hx
      obtain ⟨z, hz⟩ : ∃ z, z = zs.getD q 0 := ⟨_, rfl⟩
      have ct := hA'.2 q hlt
      simp only [] at ct
      rw [← hz] at ct
      have HZ := hide hz
      have co : wr.cell? ⟨w.heap.size, q, none⟩ = some (.int .i64 0) := by have := hrow.cell hlt; simpa using this
      have fo := hrow.frozen q
      clear hz hA hA' hbl
      go_wp2
      go_roundg (n - (q + 1))
      case measure => rw [HK.out]; omega
      case rel =>
        refine ⟨q + 1, rfl, by omega, by go_num, (hrow.set q _).congr (fun j hj => ?_), hbel.setCell (Nat.le_refl _) _⟩
        by_cases e : j = q
        · subst e; simp [HZ.out]
        · simp only [if_neg e]
          by_cases e2 : j < q
          · simp [e2, show j < q + 1 by omega]
          · simp [e2, show ¬ j < q + 1 by omega]
    · obtain rfl : q = n := by omega
      clear hA hbl
      go_wp2
      go_ret
      exact ⟨rfl, hrow.congr (fun j hj => by simp [hj]), hbel⟩

/-- What cloneInt64s, and any row of the call's own, is: where it has an element it is block G. -/
def Ow (w : World) (a : Option Addr) (n G : Nat) (zs : List Int) : Prop := 0 < n → a = some ⟨G, 0, none⟩ ∧ w.rowIs G 2 n (fun j => .int .i64 (zs.getD j 0))

theorem Ow.at {w : World} {a : Option Addr} {n G : Nat} {zs : List Int} (h : Ow w a n G zs) : At w a n G 0 (fun j => .int .i64 (zs.getD j 0)) :=
  ⟨fun h0 => (h h0).1, fun j hj => by rw [Nat.zero_add]; exact (h (by omega)).2.cell hj⟩
theorem Ow.keep {w w' : World} {a : Option Addr} {n G : Nat} {zs : List Int} (h : Ow w a n G zs) {B : Nat} (hb : Below B w w') (hB : 0 < n → G < B) : Ow w' a n G zs :=
  fun h0 => ⟨(h h0).1, (h h0).2.of_block (hb.block G (hB h0))⟩
theorem Ow.lt {w : World} {a : Option Addr} {n G : Nat} {zs : List Int} (h : Ow w a n G zs) (h0 : 0 < n) : G < w.heap.size := (h h0).2.lt

/-- cloneInt64s: the same numbers in a row of their own. -/
theorem clone_any (a : Option Addr) (n c b off : Nat) (zs : List Int) (w : World) (hn : n ≤ 65536) (hA : At w a n b off (fun j => .int .i64 (zs.getD j 0))) (h0 : a = none → n = 0) :
    Calls Tryf.prog 10 #[.slice a n c] w fun e w' => ∃ a', e = .returned (.slice a' n n) ∧ (a' = none → n = 0) ∧ Ow w' a' n w.heap.size zs ∧ Below w.heap.size w w' := by
  cases a with
  | none =>
    obtain rfl := h0 rfl
    refine (clone_nil _ _ _).mono ?_
    rintro e w' ⟨rfl, rfl⟩
    exact ⟨none, rfl, fun _ => rfl, fun h => absurd h (by omega), Below.refl _ _⟩
  | some x =>
    refine (clone_some x n c b off zs w hn hA).mono ?_
    rintro e w' ⟨rfl, hr, hb⟩
    exact ⟨_, rfl, (fun h => by cases h), fun _ => ⟨rfl, hr⟩, hb⟩

/-! ### cloneStrings -/
theorem cloneStr_any (m c b off : Nat) (S : Nat → ByteArray) (w : World) (hm : m ≤ 65536) (h0 : 0 < m) (hc : ∀ j, j < m → w.cell? ⟨b, off + j, none⟩ = some (.string (S j))) :
    Calls Tryf.prog 11 #[.slice (some ⟨b, off, none⟩) m c] w fun e w' => e = .returned (.slice (some ⟨w.heap.size, 0, none⟩) m m) ∧
      w'.rowIs w.heap.size 9 m (fun j => .string (S j)) ∧ Below w.heap.size w w' := by
  have hnil := fun w => Lib.run_eql_slice_nil (P := Tryf.prog) w 23 9 (some ⟨b, off, none⟩) m c 0 0 Tryf.underlying23
  have hmk := run_make_row' (P := Tryf.prog) 23 9 (.string ByteArray.empty) 16 Tryf.underlying23 Tryf.info9 rfl .i64 .i64 m (by omega) (by omega)
  have hbl : b < w.heap.size := block_lt_of_cell (hc 0 h0)
  go_enter Tryf.func11, Tryf.ntmps11
  go_wp2
  go_loopg [4] m (fun k i wr => ∃ q : Nat, k = m - q ∧ q ≤ m ∧ i = .int .i64 q ∧ wr.rowIs w.heap.size 9 m (fun j => if j < q then .string (S j) else .string ByteArray.empty) ∧ Below w.heap.size w wr)
  case atStart =>
    refine ⟨0, rfl, Nat.zero_le _, rfl, ?_, (Below.refl _ _).alloc (Nat.le_refl _) _⟩
    exact (World.rowIs_made w (.string ByteArray.empty) m 9).congr (fun i _ => by simp)
  case round =>
    obtain ⟨q, hk, hqn, rfl, hrow, hbel⟩ := hrel
    have HK := hide hk
    clear hk hnil hmk
    by_cases hlt : q < m
    · obtain ⟨z, hz⟩ : ∃ z, z = S q := ⟨_, rfl⟩
      have ct : wr.cell? ⟨b, off + q, none⟩ = some (.string z) := by rw [hz]; exact (hbel.cell (p := ⟨b, off + q, none⟩) hbl).trans (hc q hlt)
      have HZ := hide hz
      have co : wr.cell? ⟨w.heap.size, q, none⟩ = some (.string ByteArray.empty) := by have := hrow.cell hlt; simpa using this
      have fo := hrow.frozen q
      clear hz hc hbl
      go_wp2
      go_roundg (m - (q + 1))
      case measure => rw [HK.out]; omega
      case rel =>
        refine ⟨q + 1, rfl, by omega, by go_num, (hrow.set q _).congr (fun j hj => ?_), hbel.setCell (Nat.le_refl _) _⟩
        by_cases e : j = q
        · subst e; simp [HZ.out]
        · simp only [if_neg e]
          by_cases e2 : j < q
          · simp [e2, show j < q + 1 by omega]
          · simp [e2, show ¬ j < q + 1 by omega]
    · obtain rfl : q = m := by omega
      clear hc hbl
      go_wp2
      go_ret
      exact ⟨rfl, hrow.congr (fun j hj => by simp [hj]), hbel⟩

/-! ### ZZnewFollower -/
theorem Tryf.info46 : (Tryf.prog.info? 46).map (fun i => (i.zero, i.size, i.bytes)) = some (some (.agg #[.string ByteArray.empty, .string ByteArray.empty, .int .i64 0, .int .i64 0, .int .u64 0, .int .i64 0, .pointer none]), 7, 72) := by kernel_rfl
theorem Tryf.cells46 : Tryf.prog.cellsOf 46 = 7 := by kernel_rfl

theorem make_holders (m : Nat) (hm : m ≤ 65536) (w : World) :
    (Instr.makeSlice 40 (.int .i64 (m : Int)) (.int .i64 (m : Int))).run Tryf.prog w = .ok (.slice (some ⟨w.heap.size, 0, none⟩) m m)
      (w.alloc (.cells (madeCells #[.string ByteArray.empty, .string ByteArray.empty, .int .i64 0, .int .i64 0, .int .u64 0, .int .i64 0, .pointer none] (m * 7)) 46)) := by
  obtain ⟨i, hi, hz, hs, hb⟩ := info_parts Tryf.info46
  have hr := run_make (P := Tryf.prog) w 40 46 i _ Tryf.underlying40 hi hz .i64 .i64 m m (by omega) (Int.le_refl _) (by rw [hb]; omega) (by omega)
  simp only [Int.toNat_natCast, hs] at hr
  exact hr

/-- A follower in block Q; its holders, m of them, lie in block H, each with a string for its ID. -/
structure Fo (w : World) (Q : Nat) (bt : Bool) (st : Int) (v : Value) (H m : Nat) : Prop where
  fol : w.heap[Q]? = some (.cells #[.pointer none, .pointer none, .slice none 0 0, .slice (some ⟨H, 0, none⟩) m m, .bool bt, .int .i64 st, v, .int .i64 0, .int .u64 0, .int .i64 0, .pointer none] 52 (0, 0))
  ids : ∃ g : Nat → Value, w.rowIs H 46 (m * 7) g ∧ ∀ j, j < m → ∃ s, g (j * 7) = .string s

theorem Fo.of_blocks {w w' : World} {Q : Nat} {bt : Bool} {st : Int} {v : Value} {H m : Nat} (h : Fo w Q bt st v H m) (hQ : w'.heap[Q]? = w.heap[Q]?) (hH : w'.heap[H]? = w.heap[H]?) : Fo w' Q bt st v H m := by
  obtain ⟨g, hg, hs⟩ := h.ids
  exact ⟨hQ.trans h.fol, g, hg.of_block hH, hs⟩
theorem Fo.keep {w w' : World} {Q : Nat} {bt : Bool} {st : Int} {v : Value} {H m : Nat} (h : Fo w Q bt st v H m) {B : Nat} (hb : Below B w w') (hQ : Q < B) (hH : H < B) : Fo w' Q bt st v H m :=
  h.of_blocks (hb.block Q hQ) (hb.block H hH)
theorem Fo.Qlt {w : World} {Q : Nat} {bt : Bool} {st : Int} {v : Value} {H m : Nat} (h : Fo w Q bt st v H m) : Q < w.heap.size := lt_of_block h.fol
theorem Fo.Hlt {w : World} {Q : Nat} {bt : Bool} {st : Int} {v : Value} {H m : Nat} (h : Fo w Q bt st v H m) : H < w.heap.size := by obtain ⟨g, hg, _⟩ := h.ids; exact hg.lt
theorem Fo.c3 {w : World} {Q : Nat} {bt : Bool} {st : Int} {v : Value} {H m : Nat} (h : Fo w Q bt st v H m) : w.cell? ⟨Q, 3, none⟩ = some (.slice (some ⟨H, 0, none⟩) m m) := by simp [World.cell?, h.fol]
theorem Fo.c4 {w : World} {Q : Nat} {bt : Bool} {st : Int} {v : Value} {H m : Nat} (h : Fo w Q bt st v H m) : w.cell? ⟨Q, 4, none⟩ = some (.bool bt) := by simp [World.cell?, h.fol]
theorem Fo.c5 {w : World} {Q : Nat} {bt : Bool} {st : Int} {v : Value} {H m : Nat} (h : Fo w Q bt st v H m) : w.cell? ⟨Q, 5, none⟩ = some (.int .i64 st) := by simp [World.cell?, h.fol]
theorem Fo.c6 {w : World} {Q : Nat} {bt : Bool} {st : Int} {v : Value} {H m : Nat} (h : Fo w Q bt st v H m) : w.cell? ⟨Q, 6, none⟩ = some v := by simp [World.cell?, h.fol]
theorem Fo.id {w : World} {Q : Nat} {bt : Bool} {st : Int} {v : Value} {H m : Nat} (h : Fo w Q bt st v H m) {j : Nat} (hj : j < m) : ∃ s, w.cell? ⟨H, j * 7, none⟩ = some (.string s) := by
  obtain ⟨g, hg, hs⟩ := h.ids
  obtain ⟨s, e⟩ := hs j hj
  exact ⟨s, by rw [hg.cell (show j * 7 < m * 7 by omega), e]⟩

theorem made7 (m j : Nat) (h : j < m) : (madeCells #[.string ByteArray.empty, .string ByteArray.empty, .int .i64 0, .int .i64 0, .int .u64 0, .int .i64 0, .pointer none] (m * 7))[j * 7]? = some (.string ByteArray.empty) := by
  have h7 : j * 7 < m * 7 := by omega
  simp [madeCells, h7]

theorem rowIs_made7 (w : World) (m : Nat) : ∃ g : Nat → Value, (w.alloc (.cells (madeCells #[.string ByteArray.empty, .string ByteArray.empty, .int .i64 0, .int .i64 0, .int .u64 0, .int .i64 0, .pointer none] (m * 7)) 46)).rowIs w.heap.size 46 (m * 7) g ∧ ∀ j, j < m → ∃ s, g (j * 7) = .string s := by
  generalize hc : madeCells #[.string ByteArray.empty, .string ByteArray.empty, .int .i64 0, .int .i64 0, .int .u64 0, .int .i64 0, .pointer none] (m * 7) = c
  have hs : c.size = m * 7 := by rw [← hc]; exact size_madeCells _ _
  refine ⟨fun j => c[j]?.getD (.bool false), ?_, fun j hj => ⟨ByteArray.empty, ?_⟩⟩
  · have := World.rowIs_alloc w c 46 (fun j => c[j]?.getD (.bool false)) (fun i hi => by simp [hi])
    rwa [hs] at this
  · show (c[j * 7]?).getD _ = _
    rw [← hc, made7 m j hj]
    rfl

/-- What the seven stores of one holder leave. -/
theorem rowIs_set7 {w : World} {H m q : Nat} {g : Nat → Value} (h : w.rowIs H 46 (m * 7) g) (hg : ∀ j, j < m → ∃ s, g (j * 7) = .string s) (s : ByteArray) (v1 v2 v3 v4 v5 v6 : Value) :
    ∃ g' : Nat → Value, (((((((w.setCell ⟨H, q * 7, none⟩ (.string s)).setCell ⟨H, q * 7 + 1, none⟩ v1).setCell ⟨H, q * 7 + 2, none⟩ v2).setCell ⟨H, q * 7 + 3, none⟩ v3).setCell ⟨H, q * 7 + 4, none⟩ v4).setCell ⟨H, q * 7 + 5, none⟩ v5).setCell ⟨H, q * 7 + 6, none⟩ v6).rowIs H 46 (m * 7) g' ∧ ∀ j, j < m → ∃ s, g' (j * 7) = .string s := by
  refine ⟨_, ((((((h.set _ _).set _ _).set _ _).set _ _).set _ _).set _ _).set _ _, fun j hj => ?_⟩
  simp only [show ¬ j * 7 = q * 7 + 1 by omega, show ¬ j * 7 = q * 7 + 2 by omega, show ¬ j * 7 = q * 7 + 3 by omega, show ¬ j * 7 = q * 7 + 4 by omega, show ¬ j * 7 = q * 7 + 5 by omega, show ¬ j * 7 = q * 7 + 6 by omega, if_false]
  by_cases e : j * 7 = q * 7
  · exact ⟨s, by rw [if_pos e]⟩
  · rw [if_neg e]; exact hg j hj

set_option maxHeartbeats 1000000 in
theorem newFol_any (bt : Bool) (st : Int) (a : Option Addr) (n c D m : Nat) (S : Nat → ByteArray) (w : World) (hm : m ≤ 65536) (hrow : w.rowIs D 9 m (fun j => .string (S j))) :
    Calls Tryf.prog 12 #[.bool bt, .int .i64 st, .slice a n c, .slice (some ⟨D, 0, none⟩) m m] w fun e w' => e = .returned (.pointer (some ⟨w.heap.size + 1, 0, none⟩)) ∧ Fo w' (w.heap.size + 1) bt st (.slice a n c) w.heap.size m ∧ Below w.heap.size w w' := by
  have hmk := make_holders m hm
  have hD := hrow.lt
  go_enter Tryf.func12, Tryf.ntmps12
  go_wp2
  go_loopg [10] m (fun k i wr => ∃ q : Nat, k = m - q ∧ q ≤ m ∧ i = .int .i64 q ∧ (∃ g : Nat → Value, wr.rowIs w.heap.size 46 (m * 7) g ∧ ∀ j, j < m → ∃ s, g (j * 7) = .string s) ∧ Below w.heap.size w wr ∧ wr.heap.size = w.heap.size + 1)
  case atStart => exact ⟨0, rfl, Nat.zero_le _, rfl, rowIs_made7 w m, (Below.refl _ _).alloc (Nat.le_refl _) _, by simp⟩
  case round =>
    obtain ⟨q, hk, hqn, rfl, ⟨g, hrw, hg⟩, hbel, hsz⟩ := hrel
    have HK := hide hk
    have HG := hide hg
    have HSZ := hide hsz
    clear hk hmk hg hsz
    by_cases hlt : q < m
    · obtain ⟨s, hs⟩ : ∃ s, S q = s := ⟨_, rfl⟩
      have ct : wr.cell? ⟨D, q, none⟩ = some (.string s) := by rw [hbel.cell (p := ⟨D, q, none⟩) hD, hrow.cell hlt, hs]
      clear hs
      have e0 := hrw.cell (show q * 7 < m * 7 by omega)
      have e1 := hrw.cell (show q * 7 + 1 < m * 7 by omega)
      have e2 := hrw.cell (show q * 7 + 2 < m * 7 by omega)
      have e3 := hrw.cell (show q * 7 + 3 < m * 7 by omega)
      have e4 := hrw.cell (show q * 7 + 4 < m * 7 by omega)
      have e5 := hrw.cell (show q * 7 + 5 < m * 7 by omega)
      have e6 := hrw.cell (show q * 7 + 6 < m * 7 by omega)
      have f0 := hrw.frozen (q * 7)
      have f1 := hrw.frozen (q * 7 + 1)
      have f2 := hrw.frozen (q * 7 + 2)
      have f3 := hrw.frozen (q * 7 + 3)
      have f4 := hrw.frozen (q * 7 + 4)
      have f5 := hrw.frozen (q * 7 + 5)
      have f6 := hrw.frozen (q * 7 + 6)
      go_wp2
      go_roundg (m - (q + 1))
      case measure => rw [HK.out]; omega
      case rel =>
        refine ⟨q + 1, rfl, by omega, by go_num, rowIs_set7 hrw HG.out _ _ _ _ _ _ _, ?_, ?_⟩
        · exact ((((((hbel.setCell (Nat.le_refl _) _).setCell (Nat.le_refl _) _).setCell (Nat.le_refl _) _).setCell (Nat.le_refl _) _).setCell (Nat.le_refl _) _).setCell (Nat.le_refl _) _).setCell (Nat.le_refl _) _
        · simp [HSZ.out]
    · go_wp2
      go_ret
      have hsz := HSZ.out
      refine ⟨by rw [hsz]; rfl, ⟨by rw [← hsz]; exact Deep.blk_alloc_new _ _, g, hrw.alloc _, HG.out⟩, hbel.alloc (by omega) _⟩

end Go.Proofs.Qxb6615855aFmt
