import Derived.Test.Qxb6600577aToSteps
namespace Go.Proofs.Qxb6600577a
open Go.ChangeShapes Go.WideShapes Go.ChangeAt Go.RowKit Go.Sort

set_option maxHeartbeats 800000 in
theorem bytes22 (a : Option Addr) (len cap : Nat) (ss : List Stp) (p : ByteArray) (l n : Int) (p' : ByteArray) (l' n' : Int) (w : World) (h : InSteps w a len ss) (hsh : ShortS ss) (hp : p.size ≤ 9223372036854775807) (hp' : p'.size ≤ 9223372036854775807) :
    Calls Try.prog 22 #[.slice a len cap, .agg #[.string p, .int .i64 l, .int .i64 n], .agg #[.string p', .int .i64 l', .int .i64 n']] w fun e w' => SomeBool e ∧ Below w.heap.size w w' := by
  have hb0 : Below w.heap.size w ((w.alloc (.cells #[.string p, .int .i64 l, .int .i64 n] 36)).alloc (.cells #[.string p', .int .i64 l', .int .i64 n'] 36)) := by go_grown
  by_cases hbig : (1048576 : Int) < (len : Int)
  · go_enter Try.func22, Try.ntmps22
    go_wp2
    go_ret
    exact ⟨SomeBool.mk _, hb0⟩
  have hlen : len ≤ 1048576 := by omega
  go_enter Try.func22, Try.ntmps22
  go_wp2
  go_loop [7, 8] (fun z i => ∃ (k : Nat) (m : Int), k ≤ len ∧ 0 ≤ m ∧ m ≤ 1048576 ∧ i = .int .i64 k ∧ z = .int .i64 m) (fun _ i => len - (intOf i).toNat)
  case atStart => exact ⟨0, len, by omega, by omega, by omega, rfl, rfl⟩
  case round =>
    obtain ⟨k, m, hk, hn0, hn1, rfl, rfl⟩ := hrel
    by_cases hlt : k < len
    · obtain ⟨b, off, q, lq, nq, rfl, hbl, hg, hc0, hc1, hc2⟩ := h.get k hlt
      have hq : q.size ≤ 9223372036854775807 := hsh.get hg
      clear h hg hsh
      go_wp2
      · go_ret; exact ⟨SomeBool.mk _, hb0⟩
      · go_ret; exact ⟨SomeBool.mk _, hb0⟩
      · go_round
        case rel => exact ⟨k + 1, m + q.size, by omega, by omega, by omega, by go_num, by go_num⟩
        case measure => simp [intOf]; omega
    · go_wp2
      all_goals (go_ret; exact ⟨SomeBool.mk _, hb0⟩)

/-- A row of steps that came back, as a slice to be read. -/
theorem copy_inSteps {w w' : World} {len : Nat} {ss : List Stp} {ao : Option Addr} (hl : ss.length = len)
    (h : 0 < len → ∃ b cur, ao = some ⟨b, 0, none⟩ ∧ w.heap.size ≤ b ∧ w'.heap[b]? = some (.cells cur 46 (0, 0)) ∧ (cur.toList.drop 0).take (len * 3) = flat ss) (R : Nat) (hR : ∀ b, b < w'.heap.size → b ≠ R) :
    Handed w' R none 0 ao len ss := by
  rcases Nat.eq_zero_or_pos len with h0 | h0
  · exact .inl ⟨h0, List.eq_nil_of_length_eq_zero (by omega)⟩
  · obtain ⟨b, cur, ha, _, hc, ht⟩ := h h0
    exact .inr ⟨h0, b, 0, ha, hl, hR b (Array.getElem?_eq_some_iff.1 hc).1, fun e => (by cases e), cur, 46, hc, ht⟩

theorem Handed.step {w w' : World} {R : Nat} {blk : Option Nat} {sz u k : Nat} {ao : Option Addr} {xs : List Stp} (h : Handed w R blk u ao k xs) (hr : RS w R blk sz u) (hk : Kept w w' R blk u)
    {g u' : Nat} (hg : w.heap.size ≤ g ∨ (blk = some g ∧ u ≤ u')) : Handed w' R (some g) u' ao k xs := by
  rcases h with h | ⟨h1, b, off, h2, h3⟩
  · exact .inl h
  · exact .inr ⟨h1, b, off, h2, h3.step hr hk hg⟩

theorem Handed.inSteps {w : World} {R : Nat} {blk : Option Nat} {u k : Nat} {ao : Option Addr} {xs : List Stp} (h : Handed w R blk u ao k xs) (hk : k ≤ 9223372036854775807) : InSteps w ao k xs := by
  rcases h with ⟨rfl, rfl⟩ | ⟨h1, b, off, rfl, h3⟩
  · exact ⟨rfl, hk, fun h => absurd h (by omega)⟩
  · exact h3.inSteps hk

/-- An extend behind new blocks: what the caller goes on with. -/
theorem ext_pack {w w1 w2 : World} {R : Nat} {blk : Option Nat} {sz u k : Nat} {xs : List Stp} {s : Stp} {e : Ending} {B : Nat} (hr : RS w R blk sz u) (hb : Below w.heap.size w w1) (hE : ExtendEnd w1 R blk u k xs s e w2)
    (hB : B ≤ w.heap.size) (hBR : B ≤ R) (hBb : ∀ g, blk = some g → B ≤ g) :
    ∃ g off sz' u', e = .returned (.slice (some ⟨g, off, none⟩) (k + 1) (k + 1)) ∧ RS w2 R (some g) sz' u' ∧ Handed w2 R (some g) u' (some ⟨g, off, none⟩) (k + 1) (xs ++ [s]) ∧ Below B w w2 ∧ B ≤ g ∧ B ≤ w2.heap.size ∧
      Hid (∀ ao k xs, Handed w R blk u ao k xs → Handed w2 R (some g) u' ao k xs) := by
  obtain ⟨g, off, sz', u', h1, h2, h3, h4, h5⟩ := hE
  have hs := hb.size
  have hs2 := h4.size
  refine ⟨g, off, sz', u', h1, h2, .inr ⟨by omega, g, off, rfl, h3⟩, (hb.mono hB).trans (h4.below (by omega) hBR hBb), ?_, by omega, fun ao k xs h => (h.later hb).step (Kept.of_below hr hb) h4 h5⟩
  rcases h5 with h5 | ⟨h5, _⟩
  · omega
  · exact hBb g h5

/-- Two contracts in every such world. -/
theorem prefix_grown {w : World} {a : Option Addr} {n c : Nat} {xs : List Stp} {a' : Option Addr} {m c' : Nat} {ys : List Stp} (h : InSteps w a n xs) (h' : InSteps w a' m ys) (hpre : ys <+: xs) (d : Nat) (os : Array Obj) :
    Calls Try.prog 27 #[.slice a n c, .slice a' m c'] (grow (redrawn w d) os) fun e w'' => e = .returned (.bool true) ∧ ∃ r : Regrown, w'' = grow (redrawn w r.d) r.os :=
  Calls.regrown_of (hasPrefix27 a n c xs a' m c' ys _ (h.later (below_regrown w d os)) (h'.later (below_regrown w d os)) hpre)
theorem is_grown {w : World} (p : ByteArray) (l n : Int) (d : Nat) (os : Array Obj) :
    Calls Try.prog 28 #[.agg #[.string p, .int .i64 l, .int .i64 n], .agg #[.string p, .int .i64 l, .int .i64 n]] (grow (redrawn w d) os) fun e w'' => e = .returned (.bool true) ∧ ∃ r : Regrown, w'' = grow (redrawn w r.d) r.os :=
  Calls.regrown_of (stepIs28 p l n _)
/-- A step of a slice, read in every such world. -/
theorem InSteps.grown {w : World} {b off len : Nat} {ss : List Stp} (h : InSteps w (some ⟨b, off, none⟩) len ss) (k : Nat) (hk : k < len) (p : ByteArray) (l n : Int) (hs : ss[k]? = some ⟨p, l, n⟩) :
    (∀ d os, (grow (redrawn w d) os).cell? ⟨b, off + k * 3, none⟩ = some (.string p)) ∧ (∀ d os, (grow (redrawn w d) os).cell? ⟨b, off + k * 3 + 1, none⟩ = some (.int .i64 l)) ∧ (∀ d os, (grow (redrawn w d) os).cell? ⟨b, off + k * 3 + 2, none⟩ = some (.int .i64 n)) := by
  obtain ⟨b', off', p1, l1, n1, he, _, hg, h0, h1, h2⟩ := h.get k hk
  cases he
  rw [hs] at hg
  simp only [Option.some.injEq, Stp.mk.injEq] at hg
  obtain ⟨rfl, rfl, rfl⟩ := hg
  exact ⟨cell_regrown h0, cell_regrown h1, cell_regrown h2⟩

set_option maxRecDepth 20000 in
set_option maxHeartbeats 2000000 in
theorem law8 (a : Option Addr) (len cap : Nat) (ss : List Stp) (p : ByteArray) (l n : Int) (p' : ByteArray) (l' n' : Int) (w : World) (h : InSteps w a len ss) (hsh : ShortS ss) (hp : p.size ≤ 9223372036854775807) (hp' : p'.size ≤ 9223372036854775807) :
    Calls Try.prog 8 #[.slice a len cap, .agg #[.string p, .int .i64 l, .int .i64 n], .agg #[.string p', .int .i64 l', .int .i64 n']] w fun e w' => e = .returned (.bool true) ∧ Below w.heap.size w w' := by
  obtain ⟨w0, hw0⟩ : ∃ w0, w0 = (w.alloc (.cells #[.string p, .int .i64 l, .int .i64 n] 36)).alloc (.cells #[.string p', .int .i64 l', .int .i64 n'] 36) := ⟨_, rfl⟩
  have hb0 : Below w.heap.size w w0 := by rw [hw0]; go_grown
  have hs0 : w0.heap.size = w.heap.size + 2 := by rw [hw0]; simp
  have hS : w0.heap[w.heap.size]? = some (.cells #[.string p, .int .i64 l, .int .i64 n] 36 (0, 0)) := by
    rw [hw0, Below.heap_alloc _ _ _ (by simp)]; exact heap_alloc_new w _
  have hT : w0.heap[w.heap.size + 1]? = some (.cells #[.string p', .int .i64 l', .int .i64 n'] 36 (0, 0)) := by
    rw [hw0]
    have := heap_alloc_new (w.alloc (.cells #[.string p, .int .i64 l, .int .i64 n] 36)) (.cells #[.string p', .int .i64 l', .int .i64 n'] 36)
    simpa using this
  -- the two boxes stand in every later world
  have boxS : Hid (∀ wx, Below w0.heap.size w0 wx → wx.cell? ⟨w.heap.size, 0, none⟩ = some (.string p) ∧ wx.cell? ⟨w.heap.size, 1, none⟩ = some (.int .i64 l) ∧ wx.cell? ⟨w.heap.size, 2, none⟩ = some (.int .i64 n)) := fun wx hx => by
    have hb := (hx.block w.heap.size (by omega)).trans hS
    exact ⟨by rw [cell_of_row wx _ 0 _ 36 (0, 0) hb]; rfl, by rw [cell_of_row wx _ 1 _ 36 (0, 0) hb]; rfl, by rw [cell_of_row wx _ 2 _ 36 (0, 0) hb]; rfl⟩
  have boxT : Hid (∀ wx, Below w0.heap.size w0 wx → wx.cell? ⟨w.heap.size + 1, 0, none⟩ = some (.string p') ∧ wx.cell? ⟨w.heap.size + 1, 1, none⟩ = some (.int .i64 l') ∧ wx.cell? ⟨w.heap.size + 1, 2, none⟩ = some (.int .i64 n')) := fun wx hx => by
    have hb := (hx.block (w.heap.size + 1) (by omega)).trans hT
    exact ⟨by rw [cell_of_row wx _ 0 _ 36 (0, 0) hb]; rfl, by rw [cell_of_row wx _ 1 _ 36 (0, 0) hb]; rfl, by rw [cell_of_row wx _ 2 _ 36 (0, 0) hb]; rfl⟩
  have hin0 : Hid (∀ wx, Below w0.heap.size w0 wx → InSteps wx a len ss) := fun wx hx => (h.later hb0).later hx
  have hend : Hid (∀ wx, Below w0.heap.size w0 wx → Below w.heap.size w wx) := fun wx hx => hb0.trans (hx.mono (by omega))
  have hh0 := h.later hb0
  have hsm := h.small
  have hlen' := h.length
  clear hS hT h
  have HS0 : Hid (w0.heap.size = w.heap.size + 2) := hs0
  have HLEN : Hid (ss.length = len) := hlen'
  clear hs0 hlen'
  go_enter Try.func8, Try.ntmps8
  go_wp2_with fail
  rw [← hw0]
  have HW0 : Hid (w0 = (w.alloc (.cells #[.string p, .int .i64 l, .int .i64 n] 36)).alloc (.cells #[.string p', .int .i64 l', .int .i64 n'] 36)) := hw0
  clear hw0
  refine (bytes22 a len cap ss p l n p' l' n' w0 hh0 hsh hp hp').mono ?_
  rintro e w1 ⟨⟨b, rfl⟩, hb1⟩
  have hend1 := hend.out _ hb1
  cases b
  · go_wp2
    go_ret
    exact ⟨rfl, hend1⟩
  obtain ⟨S0, S1, S2⟩ := boxS.out _ hb1
  obtain ⟨T0, T1, T2⟩ := boxT.out _ hb1
  by_cases hbig : (32768 : Int) < (len : Int)
  · go_wp2
    go_ret
    exact ⟨rfl, hend1⟩
  have hd1 : decide ((32768 : Int) < (len : Int)) = false := decide_eq_false hbig
  have hlen : len ≤ 32768 := by omega
  by_cases hbig2 : (1048576 : Int) < (p.size : Int)
  · go_wp2
    go_ret
    exact ⟨rfl, hend1⟩
  have hd2 : decide ((1048576 : Int) < (p.size : Int)) = false := decide_eq_false hbig2
  by_cases hbig3 : (1048576 : Int) < (p'.size : Int)
  · go_wp2
    go_ret
    exact ⟨rfl, hend1⟩
  have hd3 : decide ((1048576 : Int) < (p'.size : Int)) = false := decide_eq_false hbig3
  clear hbig hbig2 hbig3
  have hin1 := hin0.out _ hb1
  have hinq : ∀ q, InSteps (w1.drewN q) a len ss := fun q => ⟨hin1.length, hin1.small, hin1.cells⟩
  go_wp2
  go_quiet ((go_at_call 23; exact Calls.quiet_of_same (stepBytesN a len cap ss _ (hinq _) hsh)))
  have hb2 : Below w0.heap.size w0 (w1.drewN nq) := below_drewN hb1 nq
  obtain ⟨w2, hw2⟩ : ∃ w2, w2 = w1.drewN nq := ⟨_, rfl⟩
  rw [← hw2] at hb2 ⊢
  have hend2 := hend.out _ hb2
  clear hinq hin1 S0 S1 S2 T0 T1 T2 hw2 hb1 hend1 hd1 hd2 hd3
  go_wp2_with fail
  · go_ret
    exact ⟨rfl, hend2⟩
  refine (toSteps24 a len cap ss w2 (hin0.out _ hb2) (by omega)).mono ?_
  intro e w3 hC
  obtain ⟨ai, ci, rfl, hb3, hrow⟩ := hC
  have hb3' : Below w0.heap.size w0 w3 := hb2.trans (hb3.mono hb2.size)
  obtain ⟨R, hR⟩ : ∃ R, R = w3.heap.size := ⟨_, rfl⟩
  have hB0R : w0.heap.size ≤ R := by rw [hR]; exact hb3'.size
  obtain ⟨w4, hw4⟩ : ∃ w4, w4 = w3.alloc (.cells #[.slice none 0 0, .int .i64 0] 42) := ⟨_, rfl⟩
  have hb4 : Below w3.heap.size w3 w4 := by rw [hw4]; exact (Below.refl _ _).alloc (Nat.le_refl _) _
  have hb4' : Below w0.heap.size w0 w4 := hb3'.trans (hb4.mono (by omega))
  have hrs4 : RS w4 R none 0 0 := ⟨by rw [hw4, hR]; exact heap_alloc_new w3 _, fun _ => ⟨rfl, rfl⟩, fun g h => (by cases h), by omega⟩
  have hin4 : Handed w4 R none 0 ai len ss := (copy_inSteps HLEN.out hrow R (fun b hb => by omega)).later hb4
  have hB4 : w0.heap.size ≤ w4.heap.size := hb4'.size
  obtain ⟨S0, S1, S2⟩ := boxS.out _ hb4'
  have hwr : w3.alloc (.cells #[.slice none 0 0, .int .i64 0] 42) = w4 := hw4.symm
  have hRr : w3.heap.size = R := hR.symm
  clear hR hw4 hrow hb2 hb3 hb3' hend2 hb4
  go_wp2_with fail
  refine (toStep26 p l n _).mono ?_
  rintro e w5 ⟨rfl, hb5⟩
  clear hwr S0 S1 S2
  go_wp2_with fail
  refine (extend25 R 0 0 len ci none ai ss p l n w5 (Kept.of_below hrs4 hb5) (hin4.later hb5) (by omega)).mono ?_
  intro e w6 hE
  obtain ⟨g1, o1, sz1, u1, rfl, hrs6, hr1, hb6, hBg1, hB6, hmov6⟩ := ext_pack (B := w0.heap.size) hrs4 hb5 hE hB4 hB0R (fun g h => (by cases h))
  have hin6 := hmov6.out _ _ _ hin4
  have hb6' : Below w0.heap.size w0 w6 := hb4'.trans hb6
  obtain ⟨T0, T1, T2⟩ := boxT.out _ hb6'
  clear hE hb5 hrs4 hin4 hb6 hmov6 hb4' hB4 hRr
  go_wp2_with fail
  refine (toStep26 p' l' n' _).mono ?_
  rintro e w7 ⟨rfl, hb7⟩
  clear T0 T1 T2
  go_wp2_with fail
  refine (extend25 R sz1 u1 (len + 1) (len + 1) (some g1) (some ⟨g1, o1, none⟩) (ss ++ [⟨p, l, n⟩]) p' l' n' w7 (Kept.of_below hrs6 hb7) (hr1.later hb7) (by omega)).mono ?_
  intro e w8 hE
  obtain ⟨g2, o2, sz2, u2, rfl, hrs8, hr2, hb8, hBg2, hB8, hmov8⟩ := ext_pack (B := w0.heap.size) hrs6 hb7 hE hB6 hB0R (fun g h => by cases h; exact hBg1)
  have hin8 := hmov8.out _ _ _ hin6
  have hr18 := hmov8.out _ _ _ hr1
  have hb8' : Below w0.heap.size w0 w8 := hb6'.trans hb8
  obtain ⟨S0, S1, S2⟩ := boxS.out _ hb8'
  clear hE hb7 hrs6 hin6 hb8 hmov8 hb6' hB6 hr1
  go_wp2_with fail
  refine (toStep26 p l n _).mono ?_
  rintro e w9 ⟨rfl, hb9⟩
  clear S0 S1 S2
  go_wp2_with fail
  refine (extend25 R sz2 u2 (len + 1) (len + 1) (some g2) (some ⟨g1, o1, none⟩) (ss ++ [⟨p, l, n⟩]) p l n w9 (Kept.of_below hrs8 hb9) (hr18.later hb9) (by omega)).mono ?_
  intro e w10 hE
  obtain ⟨g3, o3, sz3, u3, rfl, hrs10, hr3, hb10, _, hB10, hmov10⟩ := ext_pack (B := w0.heap.size) hrs8 hb9 hE hB8 hB0R (fun g h => by cases h; exact hBg2)
  have hin10 := (hmov10.out _ _ _ hin8).inSteps (by omega)
  have hr110 := (hmov10.out _ _ _ hr18).inSteps (by omega)
  have hr210 := (hmov10.out _ _ _ hr2).inSteps (by omega)
  have hr310 := hr3.inSteps (by omega)
  have hb10' : Below w0.heap.size w0 w10 := hb8'.trans hb10
  have hroute := hin0.out _ hb10'
  clear hE hb9 hrs8 hin8 hb10 hmov10 hb8' hB8 hr18 hr2 hr3 hrs10
  go_wp2_with fail
  refine (hasPrefix27 ai len ci ss a len cap ss w10 hin10 hroute (List.prefix_refl _)).mono ?_
  rintro e w11 ⟨rfl, hb11⟩
  have hb11' : Below w0.heap.size w0 w11 := hb10'.trans (hb11.mono hb10'.size)
  have hl := HLEN.out
  have hw1 : IntKind.i64.wrap ((len : Int) + 1) = (len : Int) + 1 := by rw [IntKind.wrap_i64]; omega
  have hw2 : IntKind.i64.wrap ((len : Int) + 2) = (len : Int) + 2 := by rw [IntKind.wrap_i64]; omega
  have hi1 : (len : Int) < (len : Int) + 1 := by omega
  have hi2 : (len : Int) < (len : Int) + 1 + 1 := by omega
  have hne1 : ((len : Int) + 1 + 1 != (len : Int) + 2) = false := by simp; omega
  have hne2 : ((((len + 1 + 1 : Nat) : Int)) != (len : Int) + 2) = false := by simp; omega
  have hi3 : (len : Int) + 1 < (len : Int) + 1 + 1 := by omega
  have hr1 := hr110.later hb11
  have hr2 := hr210.later hb11
  have hr3 := hr310.later hb11
  have hro := hroute.later hb11
  have hg1 : (ss ++ [(⟨p, l, n⟩ : Stp)])[len]? = some ⟨p, l, n⟩ := by rw [← hl]; simp
  have hg2 : (ss ++ [(⟨p, l, n⟩ : Stp)] ++ [⟨p', l', n'⟩])[len]? = some ⟨p, l, n⟩ := by rw [← hl]; simp
  have hg2' : (ss ++ [(⟨p, l, n⟩ : Stp)] ++ [⟨p', l', n'⟩])[len + 1]? = some ⟨p', l', n'⟩ := by rw [← hl]; simp
  have hg3 : (ss ++ [(⟨p, l, n⟩ : Stp)] ++ [⟨p, l, n⟩])[len]? = some ⟨p, l, n⟩ := by rw [← hl]; simp
  have hg3' : (ss ++ [(⟨p, l, n⟩ : Stp)] ++ [⟨p, l, n⟩])[len + 1]? = some ⟨p, l, n⟩ := by rw [← hl]; simp
  have HG1 : Hid ((ss ++ [(⟨p, l, n⟩ : Stp)])[len]? = some ⟨p, l, n⟩) := hg1
  have HG2 : Hid ((ss ++ [(⟨p, l, n⟩ : Stp)] ++ [⟨p', l', n'⟩])[len]? = some ⟨p, l, n⟩ ∧ (ss ++ [(⟨p, l, n⟩ : Stp)] ++ [⟨p', l', n'⟩])[len + 1]? = some ⟨p', l', n'⟩) := ⟨hg2, hg2'⟩
  have HG3 : Hid ((ss ++ [(⟨p, l, n⟩ : Stp)] ++ [⟨p, l, n⟩])[len]? = some ⟨p, l, n⟩ ∧ (ss ++ [(⟨p, l, n⟩ : Stp)] ++ [⟨p, l, n⟩])[len + 1]? = some ⟨p, l, n⟩) := ⟨hg3, hg3'⟩
  have hp1 : ss <+: ss ++ [(⟨p, l, n⟩ : Stp)] := List.prefix_append _ _
  have hp2 : ss <+: ss ++ [(⟨p, l, n⟩ : Stp)] ++ [⟨p', l', n'⟩] := by rw [List.append_assoc]; exact List.prefix_append _ _
  have hp3 : ss <+: ss ++ [(⟨p, l, n⟩ : Stp)] ++ [⟨p, l, n⟩] := by rw [List.append_assoc]; exact List.prefix_append _ _
  clear hl hg1 hg2 hg2' hg3 hg3' hin10 hr110 hr210 hr310 hroute hb11 hb10' hBg1 hBg2 hB10
  -- the first route
  obtain ⟨x0, x1, x2⟩ := hr1.grown len (by omega) p l n HG1.out
  obtain ⟨S0, S1, S2⟩ := boxS.out _ hb11'
  have y0 := cell_regrown S0
  have y1 := cell_regrown S1
  have y2 := cell_regrown S2
  have cP := prefix_grown (c := len + 1) (c' := cap) hr1 hro hp1
  have cS := is_grown (w := w11) p l n
  clear S0 S1 S2
  go_wp2
  refine wp_region_quiet_below (by kernel_rfl) (by kernel_rfl) ?_
  repeat (first | go_big_quiet_step (first | with_reducible exact cP _ _ | with_reducible exact cS _ _) | quiet_step (first | with_reducible exact cP _ _ | with_reducible exact cS _ _))
  refine wpQuiet_nil ?_
  intro _ hw'
  obtain ⟨⟨dq, osq⟩, hw''⟩ := hw'
  subst hw''
  have hbn : Below w11.heap.size w11 (grow (redrawn w11 dq) osq) := below_regrown w11 dq osq
  obtain ⟨w12, hwn⟩ : ∃ x, x = grow (redrawn w11 dq) osq := ⟨_, rfl⟩
  rw [← hwn] at hbn ⊢
  have hb12' : Below w0.heap.size w0 w12 := hb11'.trans (hbn.mono hb11'.size)
  have hr2' := hr2.later hbn
  have hr3' := hr3.later hbn
  have hro' := hro.later hbn
  clear x0 x1 x2 y0 y1 y2 cP cS hwn hbn hr1 hr2 hr3 hro hb11'
  -- the second route
  obtain ⟨x0, x1, x2⟩ := hr2'.grown len (by omega) p l n HG2.out.1
  obtain ⟨z0, z1, z2⟩ := hr2'.grown (len + 1) (by omega) p' l' n' HG2.out.2
  obtain ⟨S0, S1, S2⟩ := boxS.out _ hb12'
  obtain ⟨T0, T1, T2⟩ := boxT.out _ hb12'
  have y0 := cell_regrown S0
  have y1 := cell_regrown S1
  have y2 := cell_regrown S2
  have t0 := cell_regrown T0
  have t1 := cell_regrown T1
  have t2 := cell_regrown T2
  have cP := prefix_grown (c := len + 1 + 1) (c' := cap) hr2' hro' hp2
  have cS := is_grown (w := w12) p l n
  have cT := is_grown (w := w12) p' l' n'
  clear S0 S1 S2 T0 T1 T2
  go_wp2
  refine wp_region_quiet_below (by kernel_rfl) (by kernel_rfl) ?_
  repeat (first | go_big_quiet_step (first | with_reducible exact cP _ _ | with_reducible exact cS _ _ | with_reducible exact cT _ _) | quiet_step (first | with_reducible exact cP _ _ | with_reducible exact cS _ _ | with_reducible exact cT _ _))
  refine wpQuiet_nil ?_
  intro _ hw'
  obtain ⟨⟨dq, osq⟩, hw''⟩ := hw'
  subst hw''
  have hbn : Below w12.heap.size w12 (grow (redrawn w12 dq) osq) := below_regrown w12 dq osq
  obtain ⟨w13, hwn⟩ : ∃ x, x = grow (redrawn w12 dq) osq := ⟨_, rfl⟩
  rw [← hwn] at hbn ⊢
  have hb13' : Below w0.heap.size w0 w13 := hb12'.trans (hbn.mono hb12'.size)
  have hr3'' := hr3'.later hbn
  have hro'' := hro'.later hbn
  clear x0 x1 x2 y0 y1 y2 z0 z1 z2 t0 t1 t2 cP cS cT hwn hbn hr2' hr3' hro' hb12'
  -- the third route
  obtain ⟨x0, x1, x2⟩ := hr3''.grown len (by omega) p l n HG3.out.1
  obtain ⟨z0, z1, z2⟩ := hr3''.grown (len + 1) (by omega) p l n HG3.out.2
  obtain ⟨S0, S1, S2⟩ := boxS.out _ hb13'
  have y0 := cell_regrown S0
  have y1 := cell_regrown S1
  have y2 := cell_regrown S2
  have cP := prefix_grown (c := len + 1 + 1) (c' := cap) hr3'' hro'' hp3
  have cS := is_grown (w := w13) p l n
  clear S0 S1 S2
  go_wp2
  refine wp_region_quiet_below (by kernel_rfl) (by kernel_rfl) ?_
  repeat (first | go_big_quiet_step (first | with_reducible exact cP _ _ | with_reducible exact cS _ _) | quiet_step (first | with_reducible exact cP _ _ | with_reducible exact cS _ _))
  refine wpQuiet_nil ?_
  intro _ hw'
  obtain ⟨⟨dq, osq⟩, hw''⟩ := hw'
  subst hw''
  have hbn : Below w13.heap.size w13 (grow (redrawn w13 dq) osq) := below_regrown w13 dq osq
  obtain ⟨w14, hwn⟩ : ∃ x, x = grow (redrawn w13 dq) osq := ⟨_, rfl⟩
  rw [← hwn] at hbn ⊢
  have hb14' : Below w0.heap.size w0 w14 := hb13'.trans (hbn.mono hb13'.size)
  clear x0 x1 x2 y0 y1 y2 z0 z1 z2 cP cS hwn hbn hr3'' hro'' hb13'
  go_wp2
  go_ret
  exact ⟨rfl, hend.out _ hb14'⟩
end Go.Proofs.Qxb6600577a
