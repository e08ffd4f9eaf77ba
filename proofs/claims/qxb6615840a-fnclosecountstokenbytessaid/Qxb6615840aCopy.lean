import Derived.Test.Qxb6615840aRdr
namespace Go.Proofs.Qxb6615840a
open Go.RowKit

theorem Try.info5 : (Try.prog.info? 5).map (fun i => (i.zero, i.size, i.bytes)) = some (some (.int .u8 0), 1, 1) := by kernel_rfl

/-- zzCopyBytes at nil: nil. -/
theorem copy_nil (n c : Nat) (w : World) :
    Calls Try.prog 8 #[.slice none n c] w fun e w' => e = .returned (.slice none 0 0) ∧ w' = w := by
  have hnil := fun w => Lib.run_eql_slice_nil (P := Try.prog) w 22 5 none n c 0 0 Try.underlying22
  go_enter Try.func8, Try.ntmps8
  go_wp2
  go_ret
  exact ⟨rfl, rfl⟩

/-- zzCopyBytes at a slice that is empty and not nil: a new empty one. -/
theorem copy_empty (x : Addr) (c : Nat) (w : World) :
    Calls Try.prog 8 #[.slice (some x) 0 c] w fun e w' => e = .returned (.slice (some ⟨w.heap.size, 0, none⟩) 0 0) ∧ w' = w.alloc (.cells (madeCells #[.int .u8 0] 0) 5) := by
  have hnil := fun w => Lib.run_eql_slice_nil (P := Try.prog) w 22 5 (some x) 0 c 0 0 Try.underlying22
  have hmk : ∀ w, (Instr.makeSlice 22 (.int .i64 0) (.int .i64 0)).run Try.prog w = .ok (.slice (some ⟨w.heap.size, 0, none⟩) 0 0) (w.alloc (.cells (madeCells #[.int .u8 0] 0) 5)) :=
    run_make_row' (P := Try.prog) 22 5 (.int .u8 0) 1 Try.underlying22 Try.info5 rfl .i64 .i64 0 (by omega) (by omega)
  go_enter Try.func8, Try.ntmps8
  go_wp2
  refine wp_loop_rounds 1 ?_
  rw [rounds_succ]
  go_wp2
  go_ret
  exact ⟨rfl, rfl⟩

/-- zzCopyBytes: a new row with the same bytes. -/
theorem copy_any (b off n c : Nat) (zs : List Int) (w : World) (hn : n ≤ 1048576) (hb : b < w.heap.size) (hc : ∀ j, j < n → w.cell? ⟨b, off + j, none⟩ = some (.int .u8 (zs.getD j 0))) :
    Calls Try.prog 8 #[.slice (some ⟨b, off, none⟩) n c] w fun e w' => e = .returned (.slice (some ⟨w.heap.size, 0, none⟩) n n) ∧ w'.heap.size = w.heap.size + 1 ∧
      w'.rowIs w.heap.size 5 n (fun j => .int .u8 (zs.getD j 0)) ∧ Below w.heap.size w w' := by
  have hnil := fun w => Lib.run_eql_slice_nil (P := Try.prog) w 22 5 (some ⟨b, off, none⟩) n c 0 0 Try.underlying22
  have hmk := run_make_row' (P := Try.prog) 22 5 (.int .u8 0) 1 Try.underlying22 Try.info5 rfl .i64 .i64 n (by omega) (by omega)
  go_enter Try.func8, Try.ntmps8
  go_wp2
  go_loopg [4] n (fun k i wr => ∃ q : Nat, k = n - q ∧ q ≤ n ∧ i = .int .i64 q ∧ wr.heap.size = w.heap.size + 1 ∧ wr.rowIs w.heap.size 5 n (fun j => if j < q then .int .u8 (zs.getD j 0) else .int .u8 0) ∧ Below w.heap.size w wr)
  case atStart =>
    refine ⟨0, rfl, Nat.zero_le _, rfl, by simp, ?_, (Below.refl _ _).alloc (Nat.le_refl _) _⟩
    exact (World.rowIs_made w (.int .u8 0) n 5).congr (fun i _ => by simp)
  case round =>
    obtain ⟨q, hk, hqn, rfl, hsz, hrow, hbel⟩ := hrel
    have HK : Hid (gk = n - q) := hk
    clear hk hnil hmk
    by_cases hlt : q < n
    · obtain ⟨z, hz⟩ : ∃ z, z = zs.getD q 0 := ⟨_, rfl⟩
      have ct : wr.cell? ⟨b, off + q, none⟩ = some (.int .u8 z) := by rw [hz]; exact (hbel.cell (p := ⟨b, off + q, none⟩) hb).trans (hc q hlt)
      have HC : Hid (z = zs.getD q 0) := hz
      have co : wr.cell? ⟨w.heap.size, q, none⟩ = some (.int .u8 0) := by have := hrow.cell hlt; simpa using this
      have fo := hrow.frozen q
      clear hz hc
      have HSZ : Hid (wr.heap.size = w.heap.size + 1) := hsz
      clear hsz
      go_wp2
      go_roundg (n - (q + 1))
      case measure => rw [HK.out]; omega
      case rel =>
        refine ⟨q + 1, rfl, by omega, by go_num, by simp [HSZ.out], (hrow.set q _).congr (fun j hj => ?_), hbel.setCell (Nat.le_refl _) _⟩
        by_cases e : j = q
        · subst e; simp [HC.out]
        · simp only [if_neg e]
          by_cases e2 : j < q
          · simp [e2, show j < q + 1 by omega]
          · simp [e2, show ¬ j < q + 1 by omega]
    · obtain rfl : q = n := by omega
      clear hc
      have HSZ : Hid (wr.heap.size = w.heap.size + 1) := hsz
      clear hsz
      go_wp2
      go_ret
      exact ⟨rfl, HSZ.out, hrow.congr (fun j hj => by simp [hj]), hbel⟩

end Go.Proofs.Qxb6615840a
