import Derived.Test.Qxb6600577aOpenS
import Derived.Test.Qxb6600577aLaw8
namespace Go.Proofs.Qxb6600577a.fnExtendAppendsAndKeepsEarlierRoutes
open Go.ChangeShapes Go.WideShapes Go.ChangeAt Go.RowKit
open Go.ChangeMaps (open_string shut_string)
set_option linter.unusedVariables false

/-- A step by value, opened. -/
theorem open_step {H : Type} {enc : TypeId × Value → H} {W : World} {r : Reach} {b0 : Nat} {v : Value} {d : DataW H} {p : List MemPlace} (hv : Value.okWide Try.prog W r b0 36 v)
    (h : DataW.Trod enc Try.prog W 0 (fun _ => true) true 36 v d p) : ∃ s : Stp, v = .agg #[.string s.peer, .int .i64 s.lev, .int .i64 s.lnk] ∧ s.peer.size ≤ 9223372036854775807 := by
  obtain ⟨cs, rfl, hsz⟩ := okWide_struct Try.underlying36 hv
  obtain ⟨n, hn⟩ := h
  obtain ⟨s, he, hs, _⟩ := stp_of hn
  refine ⟨s, ?_, hs⟩
  have e2 : cs.toList = s.cells := by simpa [Value.cells] using he
  have e3 : cs = s.cells.toArray := by rw [← e2]
  rw [e3]; rfl

set_option maxRecDepth 100000 in
theorem lifted (os : Os) (started : os.Started) (H : Type) (enc : TypeId × Value → H) :
    ReturnsInHanded {} Try.checked os 8 .any (Rows.fnExtendAppendsAndKeepsEarlierRoutesSpec.pre6 enc Try.prog Try.f8 Rows.fnExtendAppendsAndKeepsEarlierRoutesRow.domain false) (Rows.fnExtendAppendsAndKeepsEarlierRoutesSpec.post enc Try.prog Try.f8 false true false false) := by
  refine returnsInHanded_of_change (C := Try.checked) own started (by kernel_rfl) Try.func8
    (ChangeSpec.witness6 (enc := enc) (C := Try.checked) false ⟨#[], #[.slice none 0 0, .agg #[.string ByteArray.empty, .int .i64 0, .int .i64 0], .agg #[.string ByteArray.empty, .int .i64 0, .int .i64 0]], []⟩ 8 (by kernel_rfl) (by kernel_rfl) (by kernel_rfl) (by kernel_rfl)) ?_
  intro W base args ds gs before hval0 hW hcnd _
  have hval : ∀ (j : Nat) t v, Try.f8.params[j]? = some t → args[j]? = some v → Value.okWide Try.prog W .any base t v := hval0
  have hW' := hW
  obtain ⟨p, q, hA0, hV, rfl, hfz, hnd⟩ := hW
  have hA : DataW.TrodAll enc Try.prog W 0 (fun _ => true) true Try.f8.params.toList args.toList ds p := hA0
  rw [Try.params8] at hA hval
  obtain ⟨v0, vs0, d0, ds0, p0, q0, hargs, rfl, rfl, h0, r0⟩ := trodAll_cons hA
  obtain ⟨v1, vs1, d1, ds1, p1, q1, rfl, rfl, rfl, h1, r1⟩ := trodAll_cons r0
  obtain ⟨v2, vs2, d2, ds2, p2, q2, rfl, rfl, rfl, h2, r2⟩ := trodAll_cons r1
  obtain ⟨rfl, rfl, rfl⟩ := trodAll_nil r2
  obtain rfl : args = #[v0, v1, v2] := by cases args; simp_all
  obtain ⟨rfl, rfl⟩ := trodVars_none hV
  obtain ⟨a0, len0, cap0, rfl⟩ := okWide_slice Try.underlying34 (hval 0 34 v0 rfl rfl)
  have k0 := h0
  have lt0 : ∀ x ∈ p0, x.block < W.heap.size := by obtain ⟨m, hm⟩ := k0; exact DataW.trod_lt m _ _ _ hm
  have k1 := h1
  have lt1 : ∀ x ∈ p1, x.block < W.heap.size := by obtain ⟨m, hm⟩ := k1; exact DataW.trod_lt m _ _ _ hm
  have k2 := h2
  have lt2 : ∀ x ∈ p2, x.block < W.heap.size := by obtain ⟨m, hm⟩ := k2; exact DataW.trod_lt m _ _ _ hm
  obtain ⟨ss, hss, hsh⟩ := open_steps h0
  obtain ⟨s, rfl, hs⟩ := open_step (hval 1 36 v1 rfl rfl) h1
  obtain ⟨t, rfl, ht⟩ := open_step (hval 2 36 v2 rfl rfl) h2
  clear hA0 hval0
  refine (law8 a0 len0 cap0 ss s.peer s.lev s.lnk t.peer t.lev t.lnk W hss hsh hs ht).mono fun e W' ⟨he, bel⟩ => ?_
  subst he
  exact ⟨_, rfl, _, _, _, [], _, [], hW', trodAll_mk1 (shut_bool Try.underlying4 _), (trodAll_cons_mk (Below.trod laidOut (by kernel_rfl) (of_decide_eq_true (by kernel_rfl)) k0 bel lt0) (trodAll_cons_mk (Below.trod laidOut (by kernel_rfl) (of_decide_eq_true (by kernel_rfl)) k1 bel lt1) (trodAll_cons_mk (Below.trod laidOut (by kernel_rfl) (of_decide_eq_true (by kernel_rfl)) k2 bel lt2) trodAll_mk0))), rfl, bel.frame _, fun h => by cases h⟩

theorem over : Rows.fnExtendAppendsAndKeepsEarlierRoutesRow.holds Try.pinned (OpenSpec.ofChange Rows.fnExtendAppendsAndKeepsEarlierRoutesSpec) :=
  OpenClaim.holds_of_wide 8 Try.f8 rfl rfl rfl rfl rfl rfl rfl ⟨rfl, rfl, rfl, rfl, rfl⟩ rfl rfl rfl rfl rfl (by kernel_rfl) Try.func8 (by kernel_rfl)
    (of_decide_eq_true (by kernel_rfl)) (by unfold Func.isWrapper; first | (rw [if_pos (by decide +kernel)]; kernel_rfl) | (rw [if_neg (by decide +kernel)]; exact ⟨rfl, rfl⟩))
    (fun os started H enc _ => lifted os started H enc)

end Go.Proofs.Qxb6600577a.fnExtendAppendsAndKeepsEarlierRoutes

namespace Go.Proofs.Qxb6600577a
/-- THE STATEMENT -/
theorem fnExtendAppendsAndKeepsEarlierRoutes_proved : Rows.FnExtendAppendsAndKeepsEarlierRoutesSaid := fnExtendAppendsAndKeepsEarlierRoutes.over
end Go.Proofs.Qxb6600577a
