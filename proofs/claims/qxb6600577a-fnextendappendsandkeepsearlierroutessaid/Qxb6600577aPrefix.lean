import Derived.Test.Qxb6600577aIn
import Derived.Lib.QuietBelow
namespace Go.Proofs.Qxb6600577a
open Go.ChangeShapes Go.WideShapes Go.ChangeAt Go.RowKit Go.Sort

set_option maxRecDepth 20000 in
set_option maxHeartbeats 800000 in
/-- 'lawB1HasPrefix' at a row that begins with the steps of the other. -/
theorem hasPrefix27 (a : Option Addr) (n c : Nat) (xs : List Stp) (a' : Option Addr) (m c' : Nat) (ys : List Stp) (w : World) (h : InSteps w a n xs) (h' : InSteps w a' m ys) (hpre : ys <+: xs) :
    Calls Try.prog 27 #[.slice a n c, .slice a' m c'] w fun e w' => e = .returned (.bool true) ∧ Below w.heap.size w w' := by
  have hmn : m ≤ n := by rw [← h.length, ← h'.length]; exact hpre.length_le
  have hsm := h.small
  have hnl : ¬ (n : Int) < (m : Int) := by omega
  go_enter Try.func27, Try.ntmps27
  go_wp2
  go_loopw [5] (fun i wr => ∃ k : Nat, k ≤ m ∧ i = .int .i64 k ∧ Below w.heap.size w wr) (fun i _ => m - (intOf i).toNat)
  case atStart => exact ⟨0, by omega, rfl, Below.refl _ _⟩
  case round =>
    obtain ⟨k, hk, rfl, hbel⟩ := hrel
    by_cases hlt : k < m
    · obtain ⟨b', off', p, l, q, rfl, _, hg', hc0', hc1', hc2'⟩ := (h'.later hbel).get k hlt
      obtain ⟨b, off, p1, l1, q1, rfl, _, hg, hc0, hc1, hc2⟩ := (h.later hbel).get k (by omega)
      obtain ⟨rfl, rfl, rfl⟩ : p1 = p ∧ l1 = l ∧ q1 = q := by
        obtain ⟨t, rfl⟩ := hpre
        rw [List.getElem?_append_left (by rw [h'.length]; exact hlt), hg'] at hg
        simp only [Option.some.injEq, Stp.mk.injEq] at hg
        exact ⟨hg.1.symm, hg.2.1.symm, hg.2.2.symm⟩
      have r0 := cell_regrown hc0
      have r1 := cell_regrown hc1
      have r2 := cell_regrown hc2
      have r0' := cell_regrown hc0'
      have r1' := cell_regrown hc1'
      have r2' := cell_regrown hc2'
      have cS : ∀ d os, Calls Try.prog 28 #[.agg #[.string p1, .int .i64 l1, .int .i64 q1], .agg #[.string p1, .int .i64 l1, .int .i64 q1]] (grow (redrawn wr d) os) fun e w'' => e = .returned (.bool true) ∧ ∃ r : Regrown, w'' = grow (redrawn wr r.d) r.os := fun d os => Calls.regrown_of (stepIs28 p1 l1 q1 _)
      have hki : (k : Int) < (n : Int) := by omega
      have hki' : (k : Int) < (m : Int) := by omega
      clear hc0 hc1 hc2 hc0' hc1' hc2' hg hg' h h'
      go_wp2
      refine wp_region_quiet_below (by kernel_rfl) (by kernel_rfl) ?_
      repeat (first | go_big_quiet_step (exact cS _ _) | quiet_step (exact cS _ _))
      refine wpQuiet_nil ?_
      intro _ hw'
      obtain ⟨⟨dq, osq⟩, hw''⟩ := hw'
      subst hw''
      have hb2 : Below w.heap.size w (grow (redrawn wr dq) osq) := hbel.trans ((below_regrown wr dq osq).mono hbel.size)
      go_wp2
      go_roundw
      case rel => exact ⟨k + 1, by omega, by go_num, hb2⟩
      case measure => simp [intOf]; omega
    · go_wp2
      go_ret
      exact ⟨rfl, hbel⟩
end Go.Proofs.Qxb6600577a
