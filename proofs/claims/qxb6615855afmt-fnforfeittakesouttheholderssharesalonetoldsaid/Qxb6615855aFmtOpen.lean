/-
  What the rows of this seat share: the closed facts on the program; how a slice of numbers and a slice of strings that came in are opened.
-/
import Derived.Test.Qxb6615855aFmtCards
import Derived.Test.Qxb6615855aFmtForf
import Derived.ProofKit
import Derived.OpenShut
import Derived.ShutString
import Derived.ChangeOld
import Derived.ChangeSlices
import Derived.ChangeSame
import Derived.ChangeMaps5
import Derived.JoinedOf
import Derived.Carry
import Derived.Stop.JoinedAt
import Derived.Stop.Texts
import Derived.Stop.JoinedTold
import Derived.SizedLaws
import Derived.SliceStrings
import Derived.SevenToldRow
namespace Go.Proofs.Qxb6615855aFmt
open Go.ChangeShapes Go.WideShapes Go.ChangeAt Go.RowKit

theorem own : ownKnob Tryf.prog.godebug = none := by kernel_rfl
theorem laidOut : laidOutB Tryf.pinned.checked.prog = true := by kernel_rfl
theorem stops : Tryf.pinned.checked.prog.stops = ["fmt.errorf"] := by kernel_rfl
theorem stopKnobs : Tryf.pinned.checked.prog.stopKnobs = [] := by kernel_rfl
theorem quiet (os : Os) : Stop.quiet Tryf.pinned.checked.prog os := by
  intro k hk
  rw [stopKnobs] at hk
  cases hk
theorem cells2 : Tryf.prog.cellsOf 2 = 1 := by kernel_rfl
theorem cells9 : Tryf.prog.cellsOf 9 = 1 := by kernel_rfl

theorem wf_top {x : Int} (h : (Lit.int .i64 x).wf = true) : x ≤ top := by
  simp [Lit.wf, IntKind.min, IntKind.max, IntKind.signed, IntKind.bits] at h
  unfold top
  omega

/-- A slice of int64 that came in. -/
theorem open_row {H : Type} {enc : TypeId × Value → H} {W : World} {a : Option Addr} {n c : Nat} {d : DataW H} {p : List MemPlace} (h : DataW.Trod enc Tryf.prog W 0 (fun _ => true) true 22 (.slice a n c) d p) :
    ∃ (b off : Nat) (zs : List Int), At W a n b off (fun j => .int .i64 (zs.getD j 0)) ∧ (a = none → n = 0) ∧ n ≤ maxLen ∧ ∀ j, j < n → zs.getD j 0 ≤ top := by
  obtain ⟨fuel, hf⟩ := h
  rcases open_ints Tryf.underlying22 Tryf.underlying2 cells2 hf with ⟨hcs, _⟩ | ⟨x, l, c', zs, hcs, _, hl, hm, hz, _, hcell, hwz⟩
  · simp [Value.cells] at hcs
    obtain ⟨rfl, rfl, rfl⟩ := hcs
    exact ⟨0, 0, [], ⟨fun h => absurd h (by omega), fun j hj => absurd hj (by omega)⟩, fun _ => rfl, Nat.zero_le _, fun j hj => absurd hj (by omega)⟩
  · simp [Value.cells] at hcs
    obtain ⟨rfl, rfl, rfl⟩ := hcs
    have hz' : zs.length = c := by simpa using hz
    obtain ⟨b, off, spot⟩ := x
    refine ⟨b, off, zs, ⟨fun h0 => ?_, fun j hj => ?_⟩, (fun h => by cases h), by omega, fun j hj => ?_⟩
    · have hspot : spot = none := by simpa [Addr.add] using World.cell?_spot (hcell 0 (by omega))
      rw [hspot]
    · have hspot : spot = none := by simpa [Addr.add] using World.cell?_spot (hcell 0 (by omega))
      subst hspot
      rw [← add_plain]
      exact hcell j (by omega)
    · refine wf_top (hwz _ ?_)
      have hj' : j < zs.length := by omega
      simp only [List.getD, List.getElem?_eq_getElem hj', Option.getD_some]
      exact List.getElem_mem hj'

/-- A slice of strings that came in. -/
theorem open_strrow {H : Type} {enc : TypeId × Value → H} {W : World} {a : Option Addr} {n c : Nat} {d : DataW H} {p : List MemPlace} (h : DataW.Trod enc Tryf.prog W 0 (fun _ => true) true 23 (.slice a n c) d p) :
    ∃ (b off : Nat) (S : Nat → ByteArray), At W a n b off (fun j => .string (S j)) ∧ n ≤ maxLen ∧ ∀ j, j < n → (S j).size ≤ maxLen := by
  obtain ⟨fuel, hf⟩ := h
  rcases open_strings Tryf.underlying23 Tryf.underlying9 cells9 hf with ⟨hcs, _⟩ | ⟨x, l, c', ss, hcs, _, hl, hm, hz, _, hcell, hws⟩
  · simp [Value.cells] at hcs
    obtain ⟨rfl, rfl, rfl⟩ := hcs
    exact ⟨0, 0, fun _ => ByteArray.empty, ⟨fun h => absurd h (by omega), fun j hj => absurd hj (by omega)⟩, Nat.zero_le _, fun j hj => absurd hj (by omega)⟩
  · simp [Value.cells] at hcs
    obtain ⟨rfl, rfl, rfl⟩ := hcs
    have hz' : ss.length = c := by simpa using hz
    obtain ⟨b, off, spot⟩ := x
    refine ⟨b, off, fun j => ss.getD j ByteArray.empty, ⟨fun h0 => ?_, fun j hj => ?_⟩, by omega, fun j hj => ?_⟩
    · have hspot : spot = none := by simpa [Addr.add] using World.cell?_spot (hcell 0 (by omega))
      rw [hspot]
    · have hspot : spot = none := by simpa [Addr.add] using World.cell?_spot (hcell 0 (by omega))
      subst hspot
      rw [← add_plain]
      exact hcell j (by omega)
    · have hj' : j < ss.length := by omega
      have := hws (ss.getD j ByteArray.empty) (by simp only [List.getD, List.getElem?_eq_getElem hj', Option.getD_some]; exact List.getElem_mem hj')
      simpa using this

end Go.Proofs.Qxb6615855aFmt
