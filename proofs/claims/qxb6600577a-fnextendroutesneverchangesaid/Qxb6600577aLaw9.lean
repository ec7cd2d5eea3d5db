import Derived.Test.Qxb6600577aState9
import Derived.Deep.Cut
namespace Go.Proofs.Qxb6600577a
open Go.ChangeShapes Go.WideShapes Go.ChangeAt Go.RowKit Go.Sort
open Plain (par num parI)
theorem Try.info39 : (Try.prog.info? 39).map (fun i => (i.zero, i.size, i.bytes)) = some (some (.slice none 0 0), 1, 24) := by kernel_rfl

theorem parent_at (a : Option Addr) (len cap : Nat) (zs : List Int) (j : Nat) (w : World) (h : InInts w a len zs) (hj : j < len) :
    Calls Try.prog 30 #[.slice a len cap, .int .i64 j] w fun e w' => e = .returned (.int .i64 (num (par zs j))) ∧ w = w' := by
  rw [← Plain.parI_num]
  exact parent30 a len cap zs j w h hj

/-- A cell of the list of routes. -/
theorem State9.cell {w : World} {R Q n : Nat} {zs : List Int} {ss : List Stp} {k : Nat} {wr : World} {V : List Value} {blk : Option Nat} {sz u : Nat} (h : State9 w R Q n zs ss k wr V blk sz u) {i : Nat} {v : Value} (hv : V[i]? = some v) : wr.cell? ⟨Q, i, none⟩ = some v := by
  have hVl : V.length = n := by have := h.own.1; omega
  have hi := (List.getElem?_eq_some_iff.1 hv).1
  rw [h.own.cellAt i (by omega)]; exact hv

set_option maxRecDepth 20000 in
set_option maxHeartbeats 2000000 in
theorem law9 (a : Option Addr) (lp cap : Nat) (zs : List Int) (a' : Option Addr) (ls cap' : Nat) (ss : List Stp) (w : World) (hP : InInts w a lp zs) (hS : InSteps w a' ls ss) (hsh : ShortS ss) :
    Calls Try.prog 9 #[.slice a lp cap, .slice a' ls cap'] w fun e w' => e = .returned (.bool true) ∧ Below w.heap.size w w' := by
  have hsp := hP.small
  have hss := hS.small
  go_enter Try.func9, Try.ntmps9
  go_wp2_with fail
  refine (bytes29 a lp cap a' ls cap' ss w hS hsh hsp).mono ?_
  rintro e w' ⟨⟨b, rfl⟩, rfl⟩
  cases b
  · go_wp2
    go_ret
    exact ⟨rfl, Below.refl _ _⟩
  by_cases hbig : (1024 : Int) < (lp : Int)
  · go_wp2
    go_ret
    exact ⟨rfl, Below.refl _ _⟩
  have hd1 : decide ((1024 : Int) < (lp : Int)) = false := decide_eq_false hbig
  have hlp : lp ≤ 1024 := by omega
  by_cases hbig2 : (1024 : Int) < (ls : Int)
  · go_wp2
    go_ret
    exact ⟨rfl, Below.refl _ _⟩
  have hd2 : decide ((1024 : Int) < (ls : Int)) = false := decide_eq_false hbig2
  have hls : ls ≤ 1024 := by omega
  clear hbig hbig2
  go_wp2_with fail
  refine (stepBytes23 a' ls cap' ss w hS hsh).mono ?_
  rintro e w' ⟨⟨m, rfl⟩, rfl⟩
  by_cases hz : 1048576 < wrap64 (m + 8 * (lp : Int))
  · go_wp2
    go_ret
    exact ⟨rfl, Below.refl _ _⟩
  have hd3 : decide (1048576 < wrap64 (m + 8 * (lp : Int))) = false := decide_eq_false hz
  clear hz
  obtain ⟨N, hN⟩ : ∃ N, N = min lp ls := ⟨_, rfl⟩
  have hN1 : N ≤ lp := by omega
  have hN2 : N ≤ ls := by omega
  have HN : Hid (N = min lp ls) := hN
  clear hN
  go_upto_if 39 with fail
  go_cut [5] from 15 (fun v wr => v = .int .i64 N ∧ w = wr)
  case first =>
    by_cases hlt : (ls : Int) < (lp : Int)
    · go_wp2
      go_meet
      case rel => exact ⟨by have := HN.out; rw [show N = ls by omega], rfl⟩
    · have hd : decide ((ls : Int) < (lp : Int)) = false := decide_eq_false hlt
      go_wp2
      go_meet
      case rel => exact ⟨by have := HN.out; rw [show N = lp by omega], rfl⟩
  case rest =>
    obtain ⟨rfl, rfl⟩ := hcut
    obtain ⟨i0, hi, hz0, hz1, hz2⟩ := info_parts Try.info39
    go_wp2_with (at_make; refine wpList_make_full _ rfl _ _ 52 rfl w.heap.size 39 i0 (.slice none 0 0) 1 Try.underlying52 hi hz0 hz1 _ _ _ _ N rfl rfl rfl rfl ?b2 ?b3 ?b4 ?_)
    case b2 => rw [hz2]; omega
    case b3 => unfold maxLen; omega
    case b4 => exact Nat.le_refl _
    intro wm hown hgr
    obtain ⟨V0, hV0⟩ : ∃ V0, V0 = (madeCells #[Value.slice none 0 0] N).toList := ⟨_, rfl⟩
    rw [← hV0] at hown
    have hgt : w.heap.size < wm.heap.size := by
      have := (hown.lt w.heap.size rfl).2
      exact this
    obtain ⟨R, hR⟩ : ∃ R, R = wm.heap.size := ⟨_, rfl⟩
    obtain ⟨Q, hQ⟩ : ∃ Q, Q = w.heap.size := ⟨_, rfl⟩
    have hst : State9 w R Q N zs ss 0 (wm.alloc (.cells #[.slice none 0 0, .int .i64 0] 42)) V0 none 0 0 := by rw [hR, hQ]; exact State9.start hown hgr hgt
    clear hV0 hgt hown hgr hi hz0 hz1 hz2 hd1 hd2 hd3
    go_wp2
    rw [← hR, ← hQ]
    have HQ : Hid (Q = w.heap.size) := hQ
    clear hR hQ
    go_loopw [8] (fun i wr => ∃ (k : Nat) (V : List Value) (blk : Option Nat) (sz u : Nat), k ≤ N ∧ i = .int .i64 k ∧ State9 w R Q N zs ss k wr V blk sz u) (fun i _ => N - (intOf i).toNat)
    case atStart => exact ⟨0, V0, none, 0, 0, by omega, rfl, hst⟩
    case round =>
      clear hst
      obtain ⟨k, V, blk, sz, u, hk, rfl, hst⟩ := hrel
      have hVl : V.length = N := by have := hst.own.1; omega
      by_cases hlt : k < N
      · have hpk := parent_at a lp cap zs k wr (hP.later (w' := wr) (hst.bel)) (by omega)
        obtain ⟨sb, soff, p, l, n, rfl, hsb, hsg, hs0, hs1, hs2⟩ := hS.get k (by omega)
        have e0 := (hst.bel.cell (p := ⟨sb, soff + k * 3, none⟩) hsb).trans hs0
        have e1 := (hst.bel.cell (p := ⟨sb, soff + k * 3 + 1, none⟩) hsb).trans hs1
        have e2 := (hst.bel.cell (p := ⟨sb, soff + k * 3 + 2, none⟩) hsb).trans hs2
        have hrt : Hid (rt zs ss k = bf zs ss (par zs k) ++ [⟨p, l, n⟩]) := by
          unfold Hid rt bf
          rw [Plain.chain_eq]
          simp [List.getD, hsg]
        have hbl : (bf zs ss (par zs k)).length ≤ k := Plain.before_len zs noStp ss k
        have hkq : wr.cell? ⟨Q, k, none⟩ = some (V[k]'(by omega)) := hst.cell (List.getElem?_eq_getElem _)
        -- what stands behind the two calls
        have fin : Hid (∀ w1 w2 g off sz' u', Below wr.heap.size wr w1 → RS w2 R (some g) sz' u' → Held w2 R (some g) u' g off ((bf zs ss (par zs k)).length + 1) (bf zs ss (par zs k) ++ [⟨p, l, n⟩]) → Kept w1 w2 R blk u → (w1.heap.size ≤ g ∨ (blk = some g ∧ u ≤ u')) →
            (∃ v, w2.cell? ⟨Q, k, none⟩ = some v) ∧ w2.frozen? ⟨Q, k, none⟩ = false ∧ State9 w R Q N zs ss (k + 1) (w2.setCell ⟨Q, k, none⟩ (.slice (some ⟨g, off, none⟩) ((bf zs ss (par zs k)).length + 1) ((bf zs ss (par zs k)).length + 1)))
              (V.set k (.slice (some ⟨g, off, none⟩) ((bf zs ss (par zs k)).length + 1) ((bf zs ss (par zs k)).length + 1))) (some g) sz' u') := by
          intro w1 w2 g off sz' u' hb1 hr2 hh2 hk2 hg2
          have hn := hst.next hlt hb1 ⟨p, l, n⟩ hrt.out hr2 hh2 hk2 hg2
          obtain ⟨cq, hq, _⟩ := hst.qrow
          have hql : Q < wr.heap.size := (Array.getElem?_eq_some_iff.1 hq).1
          have hbq : blk ≠ some Q := fun e => by
            obtain ⟨_, _, _, cur, hc, _⟩ := hst.rs.row Q e
            rw [hq] at hc
            simp only [Option.some.injEq, Obj.cells.injEq] at hc
            exact absurd hc.2.1 (by decide)
          have hq2 : w2.heap[Q]? = wr.heap[Q]? := (hk2.block Q (by have := hb1.size; omega) (Ne.symm hst.RQ) hbq).trans (hb1.block Q hql)
          exact ⟨⟨_, (World.cell?_of_block (a := ⟨Q, k, none⟩) hq2).trans hkq⟩, (World.frozen?_of_block (a := ⟨Q, k, none⟩) hq2).trans (hst.own.frozenAt k), hn⟩
        cases hp : par zs k with
        | none =>
          rw [hp] at hpk fin
          have hF : Hid (∀ w1 w2 g off sz' u', Below wr.heap.size wr w1 → RS w2 R (some g) sz' u' → Held w2 R (some g) u' g off 1 [⟨p, l, n⟩] → Kept w1 w2 R blk u → (w1.heap.size ≤ g ∨ (blk = some g ∧ u ≤ u')) →
            (∃ v, w2.cell? ⟨Q, k, none⟩ = some v) ∧ w2.frozen? ⟨Q, k, none⟩ = false ∧ State9 w R Q N zs ss (k + 1) (w2.setCell ⟨Q, k, none⟩ (.slice (some ⟨g, off, none⟩) 1 1)) (V.set k (.slice (some ⟨g, off, none⟩) 1 1)) (some g) sz' u') := fin
          have hrs := hst.rs
          simp only [num] at hpk
          clear hp fin hbl hrt hs0 hs1 hs2 hsg hst hkq hVl
          go_wp2_with fail
          refine hpk.mono ?_
          rintro e w' ⟨rfl, rfl⟩
          clear hpk
          go_wp2_with fail
          refine (toStep26 p l n _).mono ?_
          rintro e w1 ⟨rfl, hb1⟩
          go_wp2_with fail
          refine (extend25 R sz u 0 0 blk none [] p l n w1 (Kept.of_below hrs hb1) (.inl ⟨rfl, rfl⟩) (by omega)).mono ?_
          intro e w2 hE
          obtain ⟨g, off, sz', u', rfl, hr2, hh2, hk2, hg2⟩ := hE
          obtain ⟨⟨v, hv⟩, hfz, hn⟩ := hF.out w1 w2 g off sz' u' hb1 hr2 hh2 hk2 hg2
          have hki : (k : Int) < (N : Int) := by omega
          clear hr2 hh2 hk2 hg2 hb1 hrs e0 e1 e2 hF
          go_wp2
          go_roundw
          case rel => exact ⟨k + 1, _, some g, sz', u', by omega, by go_num, hn⟩
          case measure => simp [intOf]; omega
        | some t =>
          have htk := Plain.par_lt hp
          obtain ⟨b, off0, hvt, hhd⟩ := hst.handed hp
          have hqt := hst.cell hvt
          rw [hp] at hpk
          obtain ⟨ys, hys⟩ : ∃ ys, ys = bf zs ss (par zs k) := ⟨_, rfl⟩
          rw [← hys] at fin hqt hhd hbl
          obtain ⟨m, hm⟩ : ∃ m, m = ys.length := ⟨_, rfl⟩
          rw [← hm] at fin hqt hhd hbl
          have hrs := hst.rs
          simp only [num] at hpk
          clear hp hrt hs0 hs1 hs2 hsg hst hkq hVl hvt hys hm
          have hti : (t : Int) < (N : Int) := by omega
          go_wp2_with fail
          refine hpk.mono ?_
          rintro e w' ⟨rfl, rfl⟩
          clear hpk
          go_wp2_with fail
          refine (toStep26 p l n _).mono ?_
          rintro e w1 ⟨rfl, hb1⟩
          go_wp2_with fail
          refine (extend25 R sz u m m blk (some ⟨b, off0, none⟩) ys p l n w1 (Kept.of_below hrs hb1) (hhd.later hb1) (by omega)).mono ?_
          intro e w2 hE
          obtain ⟨g, off, sz', u', rfl, hr2, hh2, hk2, hg2⟩ := hE
          obtain ⟨⟨v, hv⟩, hfz, hn⟩ := fin.out w1 w2 g off sz' u' hb1 hr2 hh2 hk2 hg2
          have hki : (k : Int) < (N : Int) := by omega
          clear hr2 hh2 hk2 hg2 hb1 hrs e0 e1 e2 fin hhd hqt
          go_wp2
          go_roundw
          case rel => exact ⟨k + 1, _, some g, sz', u', by omega, by go_num, hn⟩
          case measure => simp [intOf]; omega
      · obtain rfl : N = k := by omega
        obtain ⟨wz, rfl⟩ : ∃ x, x = wr := ⟨_, rfl⟩
        have hend : Hid (∀ wx, Below wz.heap.size wz wx → Below w.heap.size w wx) := fun wx hx => hst.bel.trans (hx.mono hst.bel.size)
        clear hlt hk
        go_wp2
        go_loopw [11] (fun i wr => ∃ k : Nat, k ≤ N ∧ i = .int .i64 k ∧ Below wz.heap.size wz wr) (fun i _ => N - (intOf i).toNat)
        case atStart => exact ⟨0, by omega, rfl, Below.refl _ _⟩
        case round =>
          obtain ⟨k, hk, rfl, hbel⟩ := hrel
          by_cases hlt : k < N
          · obtain ⟨b, off, hv, hd, hbQ⟩ := hst.routes k hlt
            obtain ⟨xs, hxs⟩ : ∃ xs, xs = rt zs ss k := ⟨_, rfl⟩
            have hlen := Plain.chain_len zs noStp ss (k + 1) k (by omega)
            have hL1 : (rt zs ss k).length ≤ k + 1 := hlen.1
            have hL0 : 0 < (rt zs ss k).length := hlen.2
            rw [← hxs] at hv hd hL1 hL0
            have HX : Hid (xs = rt zs ss k) := hxs
            obtain ⟨L, hL⟩ : ∃ L, L = xs.length := ⟨_, rfl⟩
            rw [← hL] at hv hd hL1 hL0
            have HL : Hid (L = xs.length) := hL
            have hck : wr.cell? ⟨Q, k, none⟩ = some (.slice (some ⟨b, off, none⟩) L L) := by
              obtain ⟨cq, hq, _⟩ := hst.qrow
              exact (hbel.cell (p := ⟨Q, k, none⟩) (Array.getElem?_eq_some_iff.1 hq).1).trans (hst.cell hv)
            have hin := hd.inSteps (by omega)
            have hki : (k : Int) < (N : Int) := by omega
            clear hlen hxs hL hv hd hVl
            obtain ⟨wy, rfl⟩ : ∃ x, x = wr := ⟨_, rfl⟩
            go_wp2
            go_loopw [13, 14] (fun ps j wr => ∃ r : Option Nat, (∀ t, r = some t → t ≤ k) ∧ ps = .int .i64 (((bf zs ss r).length : Int) - 1) ∧ j = .int .i64 (num r) ∧ Hid (bf zs ss r <+: xs) ∧ Below wz.heap.size wz wr) (fun _ j _ => (intOf j + 1).toNat)
            case atStart =>
              refine ⟨some k, fun t ht => by cases ht; omega, ?_, rfl, ?_, hbel⟩
              · have h1 := HL.out
                have h2 : (bf zs ss (some k)).length = L := by rw [h1, HX.out]; rfl
                rw [h2]
              · unfold Hid; rw [HX.out]; exact List.prefix_refl _
            case round =>
              obtain ⟨r, hrk, hps, hj, HPR, hbel2⟩ := hrel
              cases r with
              | none =>
                simp only [num] at hj
                have hps' : (((bf zs ss none).length : Int) - 1) = -1 := rfl
                rw [hps'] at hps
                subst hj hps
                clear hps' hrk HPR
                go_wp2
                go_roundw
                case rel => exact ⟨k + 1, by omega, by go_num, hbel2⟩
                case measure => simp [intOf]; omega
              | some t =>
                have htk := hrk t rfl
                obtain ⟨m, hm⟩ : ∃ m, m = (bf zs ss (par zs t)).length := ⟨_, rfl⟩
                have hce : bf zs ss (some t) = bf zs ss (par zs t) ++ [ss.getD t noStp] := Plain.chain_eq zs noStp ss t
                have hps' : (((bf zs ss (some t)).length : Int) - 1) = (m : Int) := by rw [hce, hm]; simp
                rw [hps'] at hps
                simp only [num] at hj
                have hpre : bf zs ss (par zs t) <+: xs := Plain.before_prefix HPR.out
                have hlast : xs[m]? = some (ss.getD t noStp) := by rw [hm]; exact Plain.last_of_prefix HPR.out
                have hmL : m < L := by rw [HL.out]; exact (List.getElem?_eq_some_iff.1 hlast).1
                obtain ⟨sb, soff, p, l, n, rfl, hsb, hsg, hs0, hs1, hs2⟩ := (hS.later (hend.out _ hbel2)).get t (by omega)
                obtain ⟨b', off', p1, l1, n1, he, _, hg1, hc0, hc1, hc2⟩ := (hin.later hbel2).get m hmL
                cases he
                obtain ⟨rfl, rfl, rfl⟩ : p1 = p ∧ l1 = l ∧ n1 = n := by
                  rw [hlast] at hg1
                  simp only [List.getD, hsg, Option.getD_some, Option.some.injEq, Stp.mk.injEq] at hg1
                  exact ⟨hg1.1.symm, hg1.2.1.symm, hg1.2.2.symm⟩
                have r0 := cell_regrown hc0
                have r1 := cell_regrown hc1
                have r2 := cell_regrown hc2
                have r0' := cell_regrown hs0
                have r1' := cell_regrown hs1
                have r2' := cell_regrown hs2
                have cS : ∀ d os, Calls Try.prog 28 #[.agg #[.string p1, .int .i64 l1, .int .i64 n1], .agg #[.string p1, .int .i64 l1, .int .i64 n1]] (grow (redrawn wr d) os) fun e w'' => e = .returned (.bool true) ∧ ∃ r : Regrown, w'' = grow (redrawn wr r.d) r.os := fun d os => Calls.regrown_of (stepIs28 p1 l1 n1 _)
                have hmi : (m : Int) < (L : Int) := by omega
                have hti : (t : Int) < (ls : Int) := by omega
                have hd0 : decide ((m : Int) < 0) = false := decide_eq_false (by omega)
                have HM : Hid (m = (bf zs ss (par zs t)).length) := hm
                have HPP : Hid (bf zs ss (par zs t) <+: xs) := hpre
                subst hj hps
                clear hps' hce hpre hlast hc0 hc1 hc2 hs0 hs1 hs2 hg1 hsg hm hrk HPR hmL
                go_wp2
                refine wp_region_quiet_below (by kernel_rfl) (by kernel_rfl) ?_
                repeat (first | go_big_quiet_step (exact cS _ _) | quiet_step (exact cS _ _))
                refine wpQuiet_nil ?_
                intro _ hw'
                obtain ⟨⟨dq, osq⟩, hw''⟩ := hw'
                subst hw''
                have hb5 : Below wz.heap.size wz (grow (redrawn wr dq) osq) := hbel2.trans ((below_regrown wr dq osq).mono hbel2.size)
                obtain ⟨w5, hw5⟩ : ∃ w5, w5 = grow (redrawn wr dq) osq := ⟨_, rfl⟩
                rw [← hw5] at hb5 ⊢
                clear r0 r1 r2 r0' r1' r2' cS hw5
                go_wp2_with fail
                refine (parent_at a lp cap zs t w5 (hP.later (hend.out _ hb5)) (by omega)).mono ?_
                rintro e w' ⟨rfl, rfl⟩
                go_wp2
                go_roundw
                case rel =>
                  refine ⟨par zs t, fun t' ht' => by have := Plain.par_lt ht'; omega, by rw [← HM.out], rfl, HPP, hb5⟩
                case measure =>
                  cases hp : par zs t with
                  | none => simp [intOf, num]
                  | some t' => have := Plain.par_lt hp; simp [intOf, num]; omega
          · clear hk
            go_wp2
            go_ret
            exact ⟨rfl, hend.out _ hbel⟩
end Go.Proofs.Qxb6600577a
