/-
  THE STATEMENT 'Rows.FnQueueTableAddOrderFreeSaid', PROVED.
-/
import Derived.Test.Qxb6615967aRows
import Derived.Test.Qxb6615967aLaw
import Derived.WalkKit
import Derived.ProofKit
import Derived.OpenShut
import Derived.ShutString
import Derived.ChangeOld
import Derived.Below
import Derived.SliceStrings
namespace Go.Proofs.Qxb6615967a.fnQueueTableAddOrderFree
open Go.ChangeShapes Go.WideShapes Go.ChangeAt Go.RowKit

theorem own : ownKnob Try.prog.godebug = none := by kernel_rfl
theorem laidOut : laidOutB Try.prog = true := by kernel_rfl
theorem cells9 : Try.prog.cellsOf 9 = 1 := by kernel_rfl
theorem cells35 : Try.prog.cellsOf 35 = 1 := by kernel_rfl

theorem wf_u64 {x : Int} (h : (Lit.int .u64 x).wf = true) : 0 ≤ x ∧ x < 18446744073709551616 := by
  simp [Lit.wf, IntKind.min, IntKind.max, IntKind.signed, IntKind.bits] at h
  omega

/-- A slice of strings that came in. -/
theorem open_strrow {H : Type} {enc : TypeId × Value → H} {W : World} {a : Option Addr} {n c : Nat} {d : DataW H} {p : List MemPlace} (h : DataW.Trod enc Try.prog W 0 (fun _ => true) true 22 (.slice a n c) d p) :
    ∃ (b off : Nat) (S : Nat → ByteArray), At W a n b off (fun j => .string (S j)) ∧ n ≤ maxLen ∧ ∀ j, j < n → (S j).size ≤ maxLen := by
  obtain ⟨fuel, hf⟩ := h
  rcases open_strings Try.underlying22 Try.underlying9 cells9 hf with ⟨hcs, _⟩ | ⟨x, l, c', ss, hcs, _, hl, hm, hz, _, hcell, hws⟩
  · simp [Value.cells] at hcs
    obtain ⟨rfl, rfl, rfl⟩ := hcs
    exact ⟨0, 0, fun _ => ByteArray.empty, ⟨fun h => absurd h (by omega), fun j hj => absurd hj (by omega)⟩, Nat.zero_le _, fun j hj => absurd hj (by omega)⟩
  · simp [Value.cells] at hcs
    obtain ⟨rfl, rfl, rfl⟩ := hcs
    have hz' : ss.length = c := by simpa using hz
    obtain ⟨b, off, spot⟩ := x
    refine ⟨b, off, fun j => ss.getD j ByteArray.empty, ⟨fun h0 => ?_, fun j hj => ?_⟩, by omega, fun j hj => ?_⟩
    · have hspot : spot = none := by simpa [Addr.add] using World.cell?_spot (hcell 0 (by omega))
      rw [hspot]
    · have hspot : spot = none := by simpa [Addr.add] using World.cell?_spot (hcell 0 (by omega))
      subst hspot
      rw [← add_plain]
      exact hcell j (by omega)
    · have hj' : j < ss.length := by omega
      have := hws (ss.getD j ByteArray.empty) (by simp only [List.getD, List.getElem?_eq_getElem hj', Option.getD_some]; exact List.getElem_mem hj')
      simpa using this

/-- A slice of uint64 that came in. -/
theorem open_row {H : Type} {enc : TypeId × Value → H} {W : World} {a : Option Addr} {n c : Nat} {d : DataW H} {p : List MemPlace} (h : DataW.Trod enc Try.prog W 0 (fun _ => true) true 23 (.slice a n c) d p) :
    ∃ (b off : Nat) (hs : Nat → Nat), At W a n b off (fun j => .int .u64 (hs j)) ∧ n ≤ maxLen ∧ ∀ j, j < n → hs j < 18446744073709551616 := by
  obtain ⟨fuel, hf⟩ := h
  rcases open_ints Try.underlying23 Try.underlying35 cells35 hf with ⟨hcs, _⟩ | ⟨x, l, c', zs, hcs, _, hl, hm, hz, _, hcell, hwz⟩
  · simp [Value.cells] at hcs
    obtain ⟨rfl, rfl, rfl⟩ := hcs
    exact ⟨0, 0, fun _ => 0, ⟨fun h => absurd h (by omega), fun j hj => absurd hj (by omega)⟩, Nat.zero_le _, fun j hj => absurd hj (by omega)⟩
  · simp [Value.cells] at hcs
    obtain ⟨rfl, rfl, rfl⟩ := hcs
    have hz' : zs.length = c := by simpa using hz
    have hwf : ∀ j, j < n → 0 ≤ zs.getD j 0 ∧ zs.getD j 0 < 18446744073709551616 := fun j hj => by
      refine wf_u64 (hwz _ ?_)
      have hj' : j < zs.length := by omega
      simp only [List.getD, List.getElem?_eq_getElem hj', Option.getD_some]
      exact List.getElem_mem hj'
    obtain ⟨b, off, spot⟩ := x
    refine ⟨b, off, fun j => (zs.getD j 0).toNat, ⟨fun h0 => ?_, fun j hj => ?_⟩, by omega, fun j hj => ?_⟩
    · have hspot : spot = none := by simpa [Addr.add] using World.cell?_spot (hcell 0 (by omega))
      rw [hspot]
    · have hspot : spot = none := by simpa [Addr.add] using World.cell?_spot (hcell 0 (by omega))
      subst hspot
      have hc := hcell j (by omega)
      rw [add_plain] at hc
      rw [hc]
      show some (Value.int .u64 _) = some (Value.int .u64 (((zs.getD j 0).toNat : Nat) : Int))
      rw [Int.toNat_of_nonneg (hwf j hj).1]
    · have := hwf j hj
      show (zs.getD j 0).toNat < 18446744073709551616
      omega

set_option maxRecDepth 100000 in
theorem lifted (os : Os) (started : os.Started) (H : Type) (enc : TypeId × Value → H) :
    ReturnsInHanded {} Try.checked os 3 .any (Rows.fnQueueTableAddOrderFreeSpec.pre6 enc Try.prog Try.f3 Rows.fnQueueTableAddOrderFreeRow.domain false) (Rows.fnQueueTableAddOrderFreeSpec.post enc Try.prog Try.f3 false true false false) := by
  refine returnsInHanded_of_change (C := Try.checked) own started (by kernel_rfl) Try.func3
    (ChangeSpec.witness6 (enc := enc) (C := Try.checked) false ⟨#[], #[.slice none 0 0, .slice none 0 0], []⟩ 8 (by kernel_rfl) (by kernel_rfl) (by kernel_rfl) (by kernel_rfl)) ?_
  intro W base args ds gs before hval0 hW hcnd _
  have hval : ∀ (j : Nat) t v, Try.f3.params[j]? = some t → args[j]? = some v → Value.okWide Try.prog W .any base t v := hval0
  have hW' := hW
  obtain ⟨p, q, hA0, hV, rfl, hfz, hnd⟩ := hW
  have hA : DataW.TrodAll enc Try.prog W 0 (fun _ => true) true Try.f3.params.toList args.toList ds p := hA0
  rw [Try.params3] at hA hval
  obtain ⟨v0, vs0, d0, ds0, p0, q0, hargs, rfl, rfl, h0, r0⟩ := trodAll_cons hA
  obtain ⟨v1, vs1, d1, ds1, p1, q1, rfl, rfl, rfl, h1, r1⟩ := trodAll_cons r0
  obtain ⟨rfl, rfl, rfl⟩ := trodAll_nil r1
  obtain rfl : args = #[v0, v1] := by cases args; simp_all
  obtain ⟨rfl, rfl⟩ := trodVars_none hV
  obtain ⟨a, n, c, rfl⟩ := okWide_slice Try.underlying22 (hval 0 22 v0 rfl rfl)
  obtain ⟨a', m, c', rfl⟩ := okWide_slice Try.underlying23 (hval 1 23 v1 rfl rfl)
  have lt0 : ∀ x ∈ p0, x.block < W.heap.size := by obtain ⟨m, hm⟩ := h0; exact DataW.trod_lt m _ _ _ hm
  have lt1 : ∀ x ∈ p1, x.block < W.heap.size := by obtain ⟨m, hm⟩ := h1; exact DataW.trod_lt m _ _ _ hm
  obtain ⟨b, off, S, hat, hn, hS⟩ := open_strrow h0
  obtain ⟨b', off', hs, hat', hm, hh⟩ := open_row h1
  clear hA0 hval0
  refine (law_any a n c b off S a' m c' b' off' hs W hn hm hat hS hat' hh).mono fun e W' ⟨he, bel⟩ => ?_
  subst he
  exact ⟨_, rfl, _, _, _, [], _, [], hW', trodAll_mk1 (shut_bool Try.underlying4 _), (trodAll_cons_mk (Below.trod laidOut (by kernel_rfl) (of_decide_eq_true (by kernel_rfl)) h0 bel lt0) (trodAll_cons_mk (Below.trod laidOut (by kernel_rfl) (of_decide_eq_true (by kernel_rfl)) h1 bel lt1) trodAll_mk0)), rfl, bel.frame _, fun h => by cases h⟩

theorem over : Rows.fnQueueTableAddOrderFreeRow.holds Try.pinned (OpenSpec.ofChange Rows.fnQueueTableAddOrderFreeSpec) :=
  OpenClaim.holds_of_wide 3 Try.f3 rfl rfl rfl rfl rfl rfl rfl ⟨rfl, rfl, rfl, rfl, rfl⟩ rfl rfl rfl rfl rfl (by kernel_rfl) Try.func3 (by kernel_rfl)
    (of_decide_eq_true (by kernel_rfl)) (by unfold Func.isWrapper; first | (rw [if_pos (by decide +kernel)]; kernel_rfl) | (rw [if_neg (by decide +kernel)]; exact ⟨rfl, rfl⟩))
    (fun os started H enc _ => lifted os started H enc)

theorem proved : Rows.FnQueueTableAddOrderFreeSaid := over
#print axioms proved
end Go.Proofs.Qxb6615967a.fnQueueTableAddOrderFree
