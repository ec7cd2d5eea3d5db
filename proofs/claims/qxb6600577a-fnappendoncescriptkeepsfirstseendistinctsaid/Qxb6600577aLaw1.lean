import Derived.Test.Qxb6600577aOnce
namespace Go.Proofs.Qxb6600577a
open Go.ChangeShapes Go.WideShapes Go.ChangeAt Go.RowKit
open Plain (once fed without)

set_option maxHeartbeats 800000 in
theorem law4 (a : Option Addr) (len cap : Nat) (ss : List ByteArray) (w : World) (h : Strs w a len ss) (hshort : Short ss) :
    Calls Try.prog 4 #[.slice a len cap] w fun e w' => e = .returned (.bool true) ∧ Below w.heap.size w w' := by
  have hl := h.length
  have hsm := h.small
  go_enter Try.func4, Try.ntmps4
  go_wp2_with fail
  refine (bytes16 a len cap ss w h hshort).mono ?_
  rintro e w' ⟨⟨b, rfl⟩, rfl⟩
  cases b
  · go_wp2
    go_ret
    exact ⟨rfl, Below.refl _ _⟩
  by_cases hbig : (8192 : Int) < (len : Int)
  · go_wp2
    go_ret
    exact ⟨rfl, Below.refl _ _⟩
  have hlen : len ≤ 8192 := by omega
  go_wp2_with fail
  refine (listBytes11 a len cap ss w h hshort).mono ?_
  rintro e w' ⟨⟨z, rfl⟩, rfl⟩
  by_cases hz : 1048576 < z
  · go_wp2
    go_ret
    exact ⟨rfl, Below.refl _ _⟩
  have HL : Hid (ss.length = len) := hl
  clear hl
  go_wp2_with fail
  go_loopw [3, 4] (fun l i wr => ∃ (k : Nat) (ao : Option Addr) (m c : Nat), k ≤ len ∧ m ≤ k ∧ i = .int .i64 k ∧ l = .slice ao m c ∧ Hid (m = (fed ByteArray.empty 4096 ss k).length) ∧
      wr.ownsRow w.heap.size 28 1 (.slice ao m c) m (strV (fed ByteArray.empty 4096 ss k)) ∧ Below w.heap.size w wr) (fun _ i _ => len - (intOf i).toNat)
  case atStart => exact ⟨0, none, 0, 0, by omega, by omega, rfl, rfl, rfl, World.ownsRow_nil _ _ _ _, Below.refl _ _⟩
  case round =>
    obtain ⟨k, ao, m, c, hk, hm, rfl, rfl, HM, hown, hbel⟩ := hrel
    have hsz := hbel.size
    by_cases hlt : k < len
    · obtain ⟨b, off, rfl, hb, hc⟩ := h.cells (by omega)
      have hck : wr.cell? ⟨b, off + k, none⟩ = some (.string (ss.getD k ByteArray.empty)) := (hbel.cell (p := ⟨b, off + k, none⟩) hb).trans (hc k hlt)
      obtain ⟨s, hs⟩ : ∃ s, s = ss.getD k ByteArray.empty := ⟨_, rfl⟩
      rw [← hs] at hck
      have HS : Hid (s = ss.getD k ByteArray.empty) := hs
      clear hs hc
      go_wp2_with fail
      refine (once12 w.heap.size ao m c (fed ByteArray.empty 4096 ss k) s _ hown hsz (by omega)).mono ?_
      rintro e w' ⟨v', rfl, ho, hg⟩
      obtain ⟨ao', c', rfl, _⟩ := owned_strs ho
      have hk' : k < ss.length := by rw [HL.out]; exact hlt
      have hfs : fed ByteArray.empty 4096 ss (k + 1) = once ByteArray.empty 4096 (fed ByteArray.empty 4096 ss k) s := by
        rw [Plain.fed_succ _ _ _ _ hk', HS.out]; simp [hk']
      rw [← hfs] at ho ⊢
      have hb' : Below w.heap.size w w' := hbel.grown hg hsz (fun x hx => (hown.lt x hx).1)
      have hml := Plain.fed_len ByteArray.empty 4096 ss (k + 1) (by omega)
      obtain ⟨m', hm'⟩ : ∃ m', m' = (fed ByteArray.empty 4096 ss (k + 1)).length := ⟨_, rfl⟩
      rw [← hm'] at ho hml ⊢
      have HM' : Hid (m' = (fed ByteArray.empty 4096 ss (k + 1)).length) := hm'
      clear hm' hfs hown hg HM hbel hck
      go_wp2
      go_roundw
      case rel => exact ⟨k + 1, ao', m', c', by omega, by omega, by go_num, rfl, HM', ho, hb'⟩
      case measure => simp [intOf]; omega
    · obtain rfl : len = k := by omega
      obtain ⟨w1, rfl⟩ : ∃ x, x = wr := ⟨_, rfl⟩
      obtain ⟨ao', c', hv, hst⟩ := owned_strs hown
      simp only [Value.slice.injEq] at hv
      obtain ⟨rfl, -, rfl⟩ := hv
      have hit := h.later hbel
      have HK : Hid (¬ len < len) := hlt
      clear hlt hown hk h
      go_wp2_with fail
      go_loopw [5, 6] (fun l i wr => ∃ (k : Nat) (ao2 : Option Addr) (m2 c2 : Nat), k ≤ len ∧ m2 ≤ k ∧ i = .int .i64 k ∧ l = .slice ao2 m2 c2 ∧ Hid (m2 = (fed ByteArray.empty 4096 ss k).length) ∧
          wr.ownsRow w1.heap.size 9 1 (.slice ao2 m2 c2) m2 (strV (fed ByteArray.empty 4096 ss k)) ∧ Below w1.heap.size w1 wr) (fun _ i _ => len - (intOf i).toNat)
      case atStart => exact ⟨0, none, 0, 0, by omega, by omega, rfl, rfl, rfl, World.ownsRow_nil _ _ _ _, Below.refl _ _⟩
      case round =>
        obtain ⟨k, ao2, m2, c2, hk, hm2, rfl, rfl, HM2, hown2, hbel2⟩ := hrel
        have hsz2 := hbel2.size
        -- the way out: both lists hold the same strings
        have fin : Hid (fed ByteArray.empty 4096 ss len = fed ByteArray.empty 4096 ss k → Strs wr ao m (fed ByteArray.empty 4096 ss len) ∧ Strs wr ao2 m (fed ByteArray.empty 4096 ss len) ∧ m2 = m) := by
          intro he
          obtain ⟨x, y, hv, hst2⟩ := owned_strs hown2
          simp only [Value.slice.injEq] at hv
          obtain ⟨rfl, -, rfl⟩ := hv
          have hmm : m2 = m := by rw [HM2.out, HM.out, he]
          refine ⟨hst.later hbel2, ?_, hmm⟩
          rw [he, ← hmm]; exact hst2
        have hend : Below w.heap.size w wr := hbel.trans (hbel2.mono hsz)
        by_cases hlt : k < len
        · have hlti : (k : Int) < (len : Int) := by omega
          by_cases hfull : m2 < 4096
          · have hfi : (m2 : Int) < 4096 := by omega
            obtain ⟨b, off, rfl, hb, hc⟩ := hit.cells (by omega)
            have hck : wr.cell? ⟨b, off + k, none⟩ = some (.string (ss.getD k ByteArray.empty)) := (hbel2.cell (p := ⟨b, off + k, none⟩) hb).trans (hc k hlt)
            have hcj : Hid (∀ j, j < len → wr.cell? ⟨b, off + j, none⟩ = some (.string (ss.getD j ByteArray.empty))) := fun j hj => (hbel2.cell (p := ⟨b, off + j, none⟩) hb).trans (hc j hj)
            obtain ⟨s, hs⟩ : ∃ s, s = ss.getD k ByteArray.empty := ⟨_, rfl⟩
            rw [← hs] at hck
            have HS : Hid (s = ss.getD k ByteArray.empty) := hs
            have hk' : k < ss.length := by rw [HL.out]; exact hlt
            have hsk : ss[k] = s := by rw [hs]; simp [hk']
            have hfc : (fed ByteArray.empty 4096 ss k).length < 4096 := by rw [← HM2.out]; exact hfull
            have HSEEN : Hid ((s = ByteArray.empty ∨ s ∈ ss.take k) → fed ByteArray.empty 4096 ss (k + 1) = fed ByteArray.empty 4096 ss k) := by
              intro hh
              by_cases he : s = ByteArray.empty
              · exact Plain.fed_skip_blank _ _ _ _ hk' (by rw [hsk]; exact he)
              · exact Plain.fed_skip_seen _ _ _ _ hk' hfc (by rw [hsk]; exact he) (by rw [hsk]; rcases hh with h | h; exact absurd h he; exact h)
            have HNEW : Hid (s ≠ ByteArray.empty → s ∉ ss.take k → fed ByteArray.empty 4096 ss (k + 1) = fed ByteArray.empty 4096 ss k ++ [s]) := by
              intro he hh
              have := Plain.fed_take ByteArray.empty 4096 ss k hk' hfc (by rw [hsk]; exact he) (by rw [hsk]; exact hh)
              rwa [hsk] at this
            have hlk := HL.out
            clear hs hc fin hlt hfull hsk hfc hk' hlk
            by_cases hbl : s = ByteArray.empty
            · have ht : s.toList.isEmpty = true := by rw [blank_str]; simpa using hbl
              rw [← HSEEN.out (Or.inl hbl)] at hown2 HM2
              clear hbl
              go_wp2
              go_roundw
              case rel => exact ⟨k + 1, ao2, m2, c2, by omega, by omega, by go_num, rfl, HM2, hown2, hbel2⟩
              case measure => simp [intOf]; omega
            · have ht : s.toList.isEmpty = false := by rw [blank_str]; simpa using hbl
              have HB : Hid (¬ s = ByteArray.empty) := hbl
              clear hbl
              obtain ⟨w2, rfl⟩ : ∃ x, x = wr := ⟨_, rfl⟩
              go_wp2
              go_loopw [7, 8] (fun sn j wr => ∃ (t q : Nat), t ≤ k ∧ j = .int .i64 t ∧ sn = .bool false ∧ wr = w2.drewN q ∧ Hid (∀ r, r < t → ss.getD r ByteArray.empty ≠ s)) (fun _ j _ => k - (intOf j).toNat)
              case atStart => exact ⟨0, 0, by omega, rfl, rfl, rfl, fun r hr => absurd hr (by omega)⟩
              case round =>
                obtain ⟨t, q, ht, rfl, rfl, rfl, HT⟩ := hrel
                by_cases htk : t < k
                · have hct := hcj.out t (by omega)
                  obtain ⟨x, hx⟩ : ∃ x, x = ss.getD t ByteArray.empty := ⟨_, rfl⟩
                  rw [← hx] at hct
                  have HX : Hid (x = ss.getD t ByteArray.empty) := hx
                  clear hx
                  have ht1 : (t : Int) < (len : Int) := by omega
                  by_cases hxs : x = s
                  · have hb1 : (x.toList == s.toList) = true := by rw [beq_str]; simpa using hxs
                    have hmem : s ∈ ss.take k := by
                      have hl := HL.out
                      rw [← hxs, HX.out]
                      have h1 : t < ss.length := by omega
                      have h2 : t < (ss.take k).length := by simp; omega
                      have : ss.getD t ByteArray.empty = (ss.take k)[t] := by simp [h1]
                      rw [this]; exact List.getElem_mem h2
                    rw [← HSEEN.out (Or.inr hmem)] at hown2 HM2
                    clear hxs hmem
                    go_wp2
                    go_quiet (fail)
                    go_wp2
                    go_roundw
                    case rel => exact ⟨k + 1, ao2, m2, c2, by omega, by omega, by go_num, rfl, HM2, hown2, below_drewN hbel2 _⟩
                    case measure => simp [intOf]; omega
                  · have hb1 : (x.toList == s.toList) = false := by rw [beq_str]; simpa using hxs
                    have HXS : Hid (¬ x = s) := hxs
                    clear hxs
                    go_wp2
                    go_quiet (fail)
                    go_wp2
                    go_roundw
                    case rel =>
                      refine ⟨t + 1, _, by omega, by go_num, rfl, rfl, fun r hr => ?_⟩
                      by_cases hrt : r = t
                      · subst hrt; rw [← HX.out]; exact HXS.out
                      · exact HT.out r (by omega)
                    case measure => simp [intOf]; omega
                · have hnm : s ∉ ss.take k := by
                    intro hm
                    obtain ⟨i, hi, he⟩ := List.getElem_of_mem hm
                    have hi' : i < k := by simp at hi; omega
                    have hl := HL.out
                    refine HT.out i (by omega) ?_
                    have h1 : i < ss.length := by omega
                    rw [← he]; simp [h1]
                  have HF := HNEW.out HB.out hnm
                  have HFH : Hid (fed ByteArray.empty 4096 ss (k + 1) = fed ByteArray.empty 4096 ss k ++ [s]) := HF
                  clear HF hnm
                  obtain ⟨i0, hi, hz0, hz1, hz2⟩ := info_parts Try.info9
                  have hown3 : (w2.drewN q).ownsRow w1.heap.size 9 1 (.slice ao2 m2 c2) m2 (strV (fed ByteArray.empty 4096 ss k)) := hown2
                  have hsz3 : w1.heap.size ≤ (w2.drewN q).heap.size := hsz2
                  go_wp2_with (at_builtin; refine wpList_append_own _ rfl _ _ 22 rfl w1.heap.size 9 i0 (.string ByteArray.empty) 1 16 Try.underlying22 hi hz0 hz1 hz2 rfl (by decide) _ _ _ rfl (hown3.alloc _) ⟨(w2.drewN q).heap.size, 0, none⟩ 1 1 [.string s] rfl rfl ?c1 ?c2 ?c3 ?c4 ?c5 ?_)
                  case c1 => exact cell_new1 _ _ _
                  case c2 => first | rfl | exact strV_one [s]
                  case c3 => unfold maxLen; omega
                  case c4 => omega
                  case c5 => first | exact hsz3 | (simp; omega)
                  · intro v' w3 hown' hgrow _
                    have hown4 : w3.ownsRow w1.heap.size 9 1 v' (m2 + 1) (strV (fed ByteArray.empty 4096 ss (k + 1))) := by
                      rw [HFH.out]; simpa [strV] using hown'
                    have HM4 : Hid (m2 + 1 = (fed ByteArray.empty 4096 ss (k + 1)).length) := by
                      have h := HM2.out
                      rw [HFH.out]; simp [Hid, ← h]
                    have hbel3 : Below w1.heap.size w1 w3 := (below_drewN hbel2 q).grown (grownBy_alloc_then hgrow) hsz3 (fun x hx => (hown2.lt x hx).1)
                    obtain ⟨ao3, c3, rfl, _⟩ := owned_strs hown4
                    clear hown' hgrow hown3 hown2
                    go_wp2
                    go_roundw
                    case rel => exact ⟨k + 1, ao3, m2 + 1, c3, by omega, by omega, by go_num, rfl, HM4, hown4, hbel3⟩
                    case measure => simp [intOf]; omega
          · have hd : decide ((m2 : Int) < 4096) = false := decide_eq_false (by omega)
            have hfull' : fed ByteArray.empty 4096 ss len = fed ByteArray.empty 4096 ss k :=
              Plain.fed_full _ _ _ k (by rw [← HM2.out]; omega) len hk (by rw [HL.out]; exact Nat.le_refl _)
            obtain ⟨s1, s2, rfl⟩ := fin.out hfull'
            clear hfull' hlt fin
            go_wp2_with fail
            refine (isList17 ao m2 c ao2 c2 _ _ s1 s2).mono ?_
            rintro e w' ⟨rfl, q, rfl⟩
            go_wp2
            go_ret
            exact ⟨rfl, below_drewN hend q⟩
        · have hd : decide ((k : Int) < (len : Int)) = false := decide_eq_false (by omega)
          obtain rfl : len = k := by omega
          obtain ⟨s1, s2, rfl⟩ := fin.out rfl
          clear hlt hk fin
          go_wp2_with fail
          refine (isList17 ao m2 c ao2 c2 _ _ s1 s2).mono ?_
          rintro e w' ⟨rfl, q, rfl⟩
          go_wp2
          go_ret
          exact ⟨rfl, below_drewN hend q⟩
end Go.Proofs.Qxb6600577a
