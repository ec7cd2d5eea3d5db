import Derived.Test.Qxb6600577aLaw6
namespace Go.Proofs.Qxb6600577a
open Go.ChangeShapes Go.WideShapes Go.ChangeAt Go.RowKit
open Plain (once fed without cnt)

set_option maxHeartbeats 800000 in
theorem law5 (a : Option Addr) (len cap : Nat) (ss : List ByteArray) (z : ByteArray) (w : World) (h : Strs w a len ss) (hshort : Short ss) (hzs : z.size ≤ 9223372036854775807) :
    Calls Try.prog 5 #[.slice a len cap, .string z] w fun e w' => e = .returned (.bool true) ∧ Below w.heap.size w w' := by
  have hsm := h.small
  have hl : Hid (ss.length = len) := h.length
  go_enter Try.func5, Try.ntmps5
  go_wp2_with fail
  refine (bytes18 a len cap ss z w h hshort hzs).mono ?_
  rintro e w' ⟨⟨b, rfl⟩, rfl⟩
  cases b
  · go_wp2
    go_ret
    exact ⟨rfl, Below.refl _ _⟩
  by_cases hbig : (65536 : Int) < (len : Int)
  · go_wp2
    go_ret
    exact ⟨rfl, Below.refl _ _⟩
  have hd1 : decide ((65536 : Int) < (len : Int)) = false := decide_eq_false hbig
  have hlen : len ≤ 65536 := by omega
  by_cases hzb : (1048576 : Int) < (z.size : Int)
  · go_wp2
    go_ret
    exact ⟨rfl, Below.refl _ _⟩
  have hd2 : decide ((1048576 : Int) < (z.size : Int)) = false := decide_eq_false hzb
  clear hbig hzb
  go_wp2_with fail
  refine (listBytes11 a len cap ss w h hshort).mono ?_
  rintro e w' ⟨⟨n, rfl⟩, rfl⟩
  by_cases hz : 1048576 < wrap64 (n + z.size)
  · go_wp2
    go_ret
    exact ⟨rfl, Below.refl _ _⟩
  have hd3 : decide (1048576 < wrap64 (n + z.size)) = false := decide_eq_false hz
  clear hz
  go_wp2_with fail
  have hsl : ss.length ≤ 65536 := by rw [hl.out]; exact hlen
  refine (toAddrs13 a len cap ss w h hlen).mono ?_
  intro e w1 hr
  obtain ⟨ao1, c1, rfl, ho1, _, hg1⟩ := hr.open
  have hb1 : Below w.heap.size w w1 := (Below.refl _ _).grown hg1 (Nat.le_refl _) (fun k hk => by cases hk)
  have hs1 := hb1.size
  clear hr hg1
  go_wp2_with fail
  refine (without19 w.heap.size ao1 ss.length c1 ss z w1 ho1 (by omega)).mono ?_
  intro e w2 hr
  obtain ⟨ao2, c2, rfl, ho2, hst2, hg2⟩ := hr.open
  have hb2 : Below w.heap.size w w2 := hb1.grown hg2 hs1 (fun k hk => (ho1.lt k hk).1)
  have hit := h.later hb2
  obtain ⟨gs, hgs⟩ : ∃ gs, gs = without ss z := ⟨_, rfl⟩
  obtain ⟨m, hm⟩ : ∃ m, m = (without ss z).length := ⟨_, rfl⟩
  rw [← hm] at hst2 ⊢
  rw [← hgs] at hst2
  have HG : Hid (gs = without ss z) := hgs
  have HM : Hid (m = gs.length) := by rw [hgs]; exact hm
  have hmc : Hid (m + cnt ss z = len) := by
    have := Plain.without_len ss z
    rw [← hm, hl.out] at this; exact this
  clear hr hg2 ho1 ho2 hb1 hs1 hgs hm h hshort hd3
  -- the count
  go_wp2
  go_loop [6, 7] (fun c i => ∃ k : Nat, k ≤ len ∧ i = .int .i64 k ∧ c = .int .i64 (cnt (ss.take k) z)) (fun _ i => len - (intOf i).toNat)
  case atStart => exact ⟨0, by omega, rfl, by simp [cnt]⟩
  case round =>
    obtain ⟨k, hk, rfl, rfl⟩ := hrel
    obtain ⟨c, hc⟩ : ∃ c, c = cnt (ss.take k) z := ⟨_, rfl⟩
    have hck : c ≤ k := by rw [hc]; exact Nat.le_trans (Plain.cnt_le _ _) (by simp; omega)
    rw [← hc]
    have HC : Hid (c = cnt (ss.take k) z) := hc
    clear hc
    by_cases hlt : k < len
    · obtain ⟨b, off, rfl, hb, hcc⟩ := hit.cells (by omega)
      have hcell := hcc k hlt
      obtain ⟨s, hs⟩ : ∃ s, s = ss.getD k ByteArray.empty := ⟨_, rfl⟩
      rw [← hs] at hcell
      have hk' : k < ss.length := by rw [hl.out]; exact hlt
      have hnext : Hid (cnt (ss.take (k + 1)) z = c + if s = z then 1 else 0) := by
        unfold Hid
        rw [List.take_succ_eq_append_getElem hk', Plain.cnt_snoc, HC.out]
        have : ss[k] = s := by rw [hs]; simp [hk']
        rw [this]
      clear hs hcc hk'
      by_cases hsz : s = z
      · have ht : (s.toList == z.toList) = true := by rw [beq_str]; simpa using hsz
        have HN : Hid (cnt (ss.take (k + 1)) z = c + 1) := by have := hnext.out; rw [if_pos hsz] at this; exact this
        clear hsz hnext
        go_wp2
        go_round
        case rel => exact ⟨k + 1, by omega, by go_num, by rw [HN.out]; go_num⟩
        case measure => simp [intOf]; omega
      · have ht : (s.toList == z.toList) = false := by rw [beq_str]; simpa using hsz
        have HN : Hid (cnt (ss.take (k + 1)) z = c) := by have := hnext.out; rw [if_neg hsz] at this; exact this
        clear hsz hnext
        go_wp2
        go_round
        case rel => exact ⟨k + 1, by omega, by go_num, by rw [HN.out]⟩
        case measure => simp [intOf]; omega
    · obtain rfl : len = k := by omega
      have hmc1 : m + c ≤ len := by
        have h1 := HC.out; have h2 := hmc.out
        rw [List.take_of_length_le (by rw [hl.out]; exact Nat.le_refl _)] at h1
        omega
      have hmc2 : len ≤ m + c := by
        have h1 := HC.out; have h2 := hmc.out
        rw [List.take_of_length_le (by rw [hl.out]; exact Nat.le_refl _)] at h1
        omega
      clear hlt hk
      go_wp2
      -- no z in what was kept
      go_loop [8] (fun i => ∃ k : Nat, k ≤ m ∧ i = .int .i64 k) (fun i => m - (intOf i).toNat)
      case atStart => exact ⟨0, by omega, rfl⟩
      case round =>
        obtain ⟨k, hk, rfl⟩ := hrel
        by_cases hlt : k < m
        · obtain ⟨b, off, rfl, hb, hcc⟩ := hst2.cells (by omega)
          have hcell := hcc k hlt
          obtain ⟨s, hs⟩ : ∃ s, s = gs.getD k ByteArray.empty := ⟨_, rfl⟩
          rw [← hs] at hcell
          have hk' : k < gs.length := by rw [← HM.out]; exact hlt
          have hsz : ¬ s = z := by
            intro he
            refine Plain.without_not ss z ?_
            rw [← HG.out, ← he, hs]
            have : gs.getD k ByteArray.empty = gs[k] := by simp [hk']
            rw [this]; exact List.getElem_mem hk'
          have ht : (s.toList == z.toList) = false := by rw [beq_str]; simpa using hsz
          clear hs hcc hk' hsz
          go_wp2
          go_round
          case rel => exact ⟨k + 1, by omega, by go_num⟩
          case measure => simp [intOf]; omega
        · obtain rfl : m = k := by omega
          clear hlt hk
          go_wp2
          go_loopw [9, 10] (fun js i wr => ∃ (k j q : Nat), k ≤ m ∧ j ≤ len ∧ i = .int .i64 k ∧ js = .int .i64 j ∧ wr = w2.drewN q ∧ Hid ((gs.drop k).Sublist (ss.drop j))) (fun _ i _ => m - (intOf i).toNat)
          case atStart => exact ⟨0, 0, 0, by omega, by omega, rfl, rfl, rfl, by unfold Hid; rw [List.drop_zero, List.drop_zero, HG.out]; exact Plain.without_sub ss z⟩
          case round =>
            obtain ⟨k, j, q, hk, hj, rfl, rfl, rfl, HS⟩ := hrel
            by_cases hlt : k < m
            · obtain ⟨b, off, rfl, hb, hcc⟩ := hst2.cells (by omega)
              have hcell := hcc k hlt
              obtain ⟨s, hs⟩ : ∃ s, s = gs.getD k ByteArray.empty := ⟨_, rfl⟩
              rw [← hs] at hcell
              have hk' : k < gs.length := by rw [← HM.out]; exact hlt
              have HD : Hid (gs.drop k = s :: gs.drop (k + 1)) := by
                unfold Hid
                rw [List.drop_eq_getElem_cons hk']
                have : gs[k] = s := by rw [hs]; simp [hk']
                rw [this]
              have hkm : (k : Int) < (m : Int) := by omega
              clear hs hcc hk'
              go_wp2
              go_loopw [9] (fun js wr => ∃ (j q : Nat), j ≤ len ∧ js = .int .i64 j ∧ wr = w2.drewN q ∧ Hid ((gs.drop k).Sublist (ss.drop j))) (fun js _ => len - (intOf js).toNat)
              case atStart => exact ⟨j, q, hj, rfl, rfl, HS⟩
              case round =>
                clear HS hj
                obtain ⟨j', q', hj, rfl, rfl, HS⟩ := hrel
                by_cases hjl : j' < len
                · have hjl' : (j' : Int) < (len : Int) := by omega
                  obtain ⟨b2, off2, rfl, hb2', hcc⟩ := hit.cells (by omega)
                  have hcx := hcc j' hjl
                  obtain ⟨x, hx⟩ : ∃ x, x = ss.getD j' ByteArray.empty := ⟨_, rfl⟩
                  rw [← hx] at hcx
                  have hj' : j' < ss.length := by rw [hl.out]; exact hjl
                  have HX : Hid (ss.drop j' = x :: ss.drop (j' + 1)) := by
                    unfold Hid
                    rw [List.drop_eq_getElem_cons hj']
                    have : ss[j'] = x := by rw [hx]; simp [hj']
                    rw [this]
                  clear hx hcc hj'
                  by_cases hxs : x = s
                  · have ht : (x.toList == s.toList) = true := by rw [beq_str]; simpa using hxs
                    have HS2 : Hid ((gs.drop (k + 1)).Sublist (ss.drop (j' + 1))) := by
                      have := HS.out
                      rw [HD.out, HX.out] at this
                      exact Plain.sub_match this
                    have hne : ((j' : Int) == (len : Int)) = false := by simp; omega
                    clear hxs HS HX HD
                    go_wp2
                    go_quiet (fail)
                    go_wp2
                    go_roundw
                    case rel => exact ⟨k + 1, j' + 1, _, by omega, by omega, by go_num, by go_num, rfl, HS2⟩
                    case measure => simp [intOf]; omega
                  · have ht : (x.toList == s.toList) = false := by rw [beq_str]; simpa using hxs
                    have HS2 : Hid ((gs.drop k).Sublist (ss.drop (j' + 1))) := by
                      have := HS.out
                      rw [HD.out, HX.out] at this
                      unfold Hid
                      rw [HD.out]
                      exact Plain.sub_skip this hxs
                    clear hxs HS HX HD
                    go_wp2
                    go_quiet (fail)
                    go_wp2
                    go_roundw
                    case rel => exact ⟨j' + 1, _, by omega, by go_num, rfl, HS2⟩
                    case measure => simp [intOf]; omega
                · exfalso
                  have h1 := HS.out
                  have h2 : ss.drop j' = [] := List.drop_of_length_le (by rw [hl.out]; omega)
                  rw [HD.out, h2] at h1
                  have h3 := h1.length_le
                  simp at h3
            · clear hk
              go_wp2
              go_ret
              exact ⟨rfl, below_drewN hb2 _⟩
end Go.Proofs.Qxb6600577a
