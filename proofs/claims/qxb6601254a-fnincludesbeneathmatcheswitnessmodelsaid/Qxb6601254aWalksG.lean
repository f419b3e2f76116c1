import Derived.Test.Qxb6601254aWalksE
import Derived.Test.Qxb6601254aPlainC
import Derived.Laws.IdiomStrings
namespace Go.Proofs.Qxb6601254a
open Go.RowKit
theorem info5 : (Try.prog.info? 5).map (fun i => (i.zero, i.size, i.bytes)) = some (some (.int .u8 0), 1, 1) := by kernel_rfl

/-- n times 'x'. -/
def exes (n : Nat) : ByteArray := S (List.replicate n 120)
theorem L_exes (n : Nat) : L (exes n) = List.replicate n 120 := L_S _
theorem exes_size (n : Nat) : (exes n).size = n := by rw [← L_len, L_exes]; simp
theorem L_app (a b : ByteArray) : L (a ++ b) = L a ++ L b := by simp [L]

theorem conv_exes {wr : World} {B n : Nat} (h : wr.rowIs B 5 n (fun j => if j < n then .int .u8 120 else .int .u8 0)) :
    (convert 42 9 (.slice (some ⟨B, 0, none⟩) n n)).run Try.prog wr = .ok (.string (exes n)) wr := by
  have hr := run_convert_bytes_back (P := Try.prog) wr 42 9 5 ⟨B, 0, none⟩ n (List.replicate n 120) Try.underlying42 Try.underlying5 Try.underlying9 (fun j hj => by
    have hj' : j < n := by simpa using hj
    have := h.cell hj'
    simp only [hj', if_true] at this
    rw [Go.WideShapes.add_plain, Nat.zero_add]
    simpa using this)
  rw [List.length_replicate] at hr
  exact hr

set_option maxHeartbeats 400000 in
theorem fresh_any (dir : ByteArray) (n : Nat) (hn : n ≤ 1048577) (hd : dir.size ≤ 1048576) (w : World) :
    Calls Try.prog 25 #[.string dir, .int .i64 n] w fun e w' => ∃ q, e = .returned (.string q) ∧ L q = Pl.fresh (L dir) n ∧ Below w.heap.size w w' := by
  have hmk := run_make_row' (P := Try.prog) 42 5 (.int .u8 0) 1 Try.underlying42 info5 rfl .i64 .i64 n (by omega) (by omega)
  go_enter Try.func25, Try.ntmps25
  go_wp2
  go_loopw [6] (fun i wr => ∃ k : Nat, k ≤ n ∧ i = .int .i64 k ∧ wr.rowIs w.heap.size 5 n (fun j => if j < k then .int .u8 120 else .int .u8 0) ∧ Below w.heap.size w wr) (fun i _ => n - (intOf i).toNat)
  case atStart => exact ⟨0, Nat.zero_le _, rfl, (World.rowIs_made w _ _ 5).congr (fun j _ => by simp), (Below.refl _ _).alloc (Nat.le_refl _) _⟩
  case round =>
    obtain ⟨k, hk, rfl, hrow, hbel⟩ := hrel
    by_cases hlt : k < n
    · have e0 := hrow.cell (i := k) hlt
      have f0 := hrow.frozen k
      go_wp2
      go_roundw
      case rel =>
        refine ⟨k + 1, by omega, by go_num, (hrow.set _ _).congr (fun j _ => ?_), hbel.setCell (p := ⟨w.heap.size, _, none⟩) (Nat.le_refl _) _⟩
        by_cases h1 : j = k
        · subst h1; simp
        · by_cases h2 : j < k
          · have h3 : j < k + 1 := by omega
            simp [h1, h2, h3]
          · have h3 : ¬ j < k + 1 := by omega
            simp [h1, h2, h3]
      case measure => simp [intOf]; omega
    · have hks : k = n := by omega
      subst hks
      have hcv := conv_exes hrow
      have hxs := exes_size k
      by_cases hdot : L dir = [46]
      · have g : (dir.toList == [46]) = true := by rw [toList_L, hdot]; rfl
        have HE : Hid (L (exes k) = Pl.fresh (L dir) k) := by show _ = _; rw [L_exes, Pl.fresh, if_pos hdot]
        clear hdot
        go_wp2
        go_ret
        exact ⟨_, rfl, HE.out, hbel⟩
      · have g : (dir.toList == [46]) = false := by rw [toList_L]; simpa using hdot
        have HE : Hid (L (dir ++ ⟨#[47]⟩ ++ exes k) = Pl.fresh (L dir) k) := by
          show _ = _
          rw [L_app, L_app, L_exes, Pl.fresh, if_neg hdot, List.append_assoc]; rfl
        clear hdot
        go_wp2
        go_ret
        exact ⟨_, rfl, HE.out, hbel⟩
end Go.Proofs.Qxb6601254a
