import Derived.Test.Qxb6600863aShow
import Derived.Deep.Cut
namespace Go.Proofs.Qxb6600863a
open Go.ChangeShapes Go.WideShapes Go.ChangeAt Go.RowKit Go.Sort
open Plain (dat jn alt showL)

theorem showL_le (hs os : List ByteArray) (hw : weigh hs + weigh os ≤ 65536) (hm : os.length ≤ 256) : (showL hs os).length ≤ 17000000 := by
  unfold showL
  split
  · have := alt_le hs os 0; omega
  · have h1 : (Lib.join ((List.range os.length).map (alt hs os)) [44, 32]).length ≤ 16777728 := by
      refine Nat.le_trans (Plain.join_le _ _) (Nat.le_trans (Plain.tot_le _ _ 65536 (fun x hx => ?_)) ?_)
      · obtain ⟨i, _, rfl⟩ := List.mem_map.1 hx
        have := alt_le hs os i; omega
      · simp only [List.length_map, List.length_range, List.length_cons, List.length_nil]
        have : os.length * (65536 + (0 + 1 + 1)) ≤ 256 * (65536 + (0 + 1 + 1)) := Nat.mul_le_mul_right _ hm
        omega
    have h2 := alt_le hs os os.length
    simp only [List.length_append, List.length_cons, List.length_nil]
    omega

set_option maxRecDepth 20000 in
set_option maxHeartbeats 2000000 in
theorem law4 (a : Option Addr) (n c : Nat) (hs : List ByteArray) (a' : Option Addr) (m c' : Nat) (os : List ByteArray) (w : World) (hx : Strs w a n hs) (hy : Strs w a' m os) (hsh : Short hs) (hsh' : Short os) :
    Calls Try.prog 4 #[.slice a n c, .slice a' m c'] w fun e w' => e = .returned (.bool true) ∧ Below w.heap.size w w' := by
  have hhl : Hid (hs.length = n) := hx.length
  have hol : Hid (os.length = m) := hy.length
  have hsn := hx.small
  have hsm := hy.small
  go_enter Try.func4, Try.ntmps4
  go_wp2_with fail
  refine (bytes10 a n c hs a' m c' os w hx hsh hy hsh').mono ?_
  rintro e w' ⟨⟨b, rfl⟩, rfl⟩
  cases b
  · go_wp2
    go_ret
    exact ⟨rfl, Below.refl _ _⟩
  go_wp2_with fail
  refine (listBytes6 a n c hs w hx hsh).mono ?_
  rintro e w' ⟨⟨z1, rfl, hz10, hz11, hw1⟩, rfl⟩
  go_wp2_with fail
  refine (listBytes6 a' m c' os w hy hsh').mono ?_
  rintro e w' ⟨⟨z2, rfl, hz20, hz21, hw2⟩, rfl⟩
  by_cases hz : 65536 < z1 + z2
  · clear hw1 hw2
    go_wp2
    go_ret
    exact ⟨rfl, Below.refl _ _⟩
  have hw : weigh hs + weigh os ≤ 65536 := by
    have h1 := hw1 (by omega); have h2 := hw2 (by omega); omega
  have hnm : n ≤ 4096 ∧ m ≤ 4096 := by
    have h1 := weigh_len hs; have h2 := weigh_len os
    rw [hhl.out] at h1; rw [hol.out] at h2; omega
  have hn4 := hnm.1
  have hm4 := hnm.2
  clear hw1 hw2 hnm
  by_cases hm256 : (256 : Int) < (m : Int)
  · go_wp2
    go_ret
    exact ⟨rfl, Below.refl _ _⟩
  by_cases hm0 : m = 0
  · subst hm0
    go_wp2
    go_ret
    exact ⟨rfl, Below.refl _ _⟩
  have hme : ((m : Int) == 0) = false := by simp; omega
  have hm1 : m ≤ 256 := by omega
  go_wp2_with fail
  refine (copyNames7 a n c hs w hx (by omega)).mono ?_
  intro e w1 hr
  obtain ⟨aH, cH, rfl, hoH, hsH, hnH, hgH⟩ := hr.open
  have hb1 : Below w.heap.size w w1 := (Below.refl _ _).grown hgH (Nat.le_refl _) (fun k hk => by cases hk)
  have hcH := owned_cap hoH
  rw [hhl.out] at hsH hcH ⊢
  clear hr hgH hoH
  go_wp2_with fail
  refine (copyNames7 a' m c' os w1 (hy.later hb1) (by omega)).mono ?_
  intro e w2 hr
  obtain ⟨aO, cO, rfl, hoO, hsO, _, hgO⟩ := hr.open
  have hb2' : Below w1.heap.size w1 w2 := (Below.refl _ _).grown hgO (Nat.le_refl _) (fun k hk => by cases hk)
  have hb2 : Below w.heap.size w w2 := hb1.trans (hb2'.mono hb1.size)
  have hsH2 := hsH.later hb2'
  have hcO := owned_cap hoO
  rw [hol.out] at hsO hcO ⊢
  obtain ⟨bO, oO, rfl, hbO, hcellO⟩ := hsO.cells (by omega)
  clear hr hgO hoO hb2' hsH hb1
  -- the longer list
  obtain ⟨o0, ho0⟩ : ∃ o0, o0 = os.getD 0 ByteArray.empty := ⟨_, rfl⟩
  have HO : Hid (os = o0 :: os.drop 1) := by
    have h1 := hol.out
    cases os with
    | nil => simp at h1; omega
    | cons x r => simp [Hid, ho0]
  have hc0 := hcellO 0 (by omega)
  rw [← ho0, Nat.add_zero] at hc0
  clear ho0
  obtain ⟨S, hS⟩ : ∃ S, S = hs ++ [o0] := ⟨_, rfl⟩
  have HS : Hid (S = hs ++ [o0]) := hS
  have HSl : Hid (S.length = n + 1) := by unfold Hid; rw [hS]; simp [hhl.out]
  clear hS
  obtain ⟨i0, hi, hz0, hz1, hz2⟩ := info_parts Try.info9
  go_wp2_with (at_make; refine wpList_make_full _ rfl _ _ 22 rfl w2.heap.size 9 i0 (.string ByteArray.empty) 1 Try.underlying22 hi hz0 hz1 _ _ _ _ (n + 1) rfl rfl ?b5 ?b6 ?b2 ?b3 ?b4 ?_)
  case b5 => omega
  case b6 => omega
  case b2 => rw [hz2]; omega
  case b3 => unfold maxLen; omega
  case b4 => exact Nat.le_refl _
  intro w3 hown hgr
  have hb3 : Below w2.heap.size w2 w3 := (Below.refl _ _).grown hgr (Nat.le_refl _) (fun k hk => by cases hk)
  have hown1 : w3.ownsRow w2.heap.size 9 1 (.slice (some ⟨w2.heap.size, 0, none⟩) (n + 1) (n + 1)) (n + 1) (strV (filling S (n + 1) 0)) := by
    have e1 : (madeCells #[Value.string ByteArray.empty] (n + 1)).toList = strV (filling S (n + 1) 0) := by
      rw [toList_madeCells_one]; simp [strV, filling]
    rw [← e1]; exact hown
  clear hown hgr hi hz0 hz1 hz2
  obtain ⟨g, hg⟩ : ∃ g, g = w2.heap.size := ⟨_, rfl⟩
  have HG : Hid (g = w2.heap.size) := hg
  rw [← hg] at hown1 ⊢
  clear hg
  go_wp2
  go_loopw [6] (fun i wr => ∃ k : Nat, k ≤ n ∧ i = .int .i64 k ∧ wr.ownsRow g 9 1 (.slice (some ⟨g, 0, none⟩) (n + 1) (n + 1)) (n + 1) (strV (filling S (n + 1) k)) ∧ Below g w2 wr) (fun i _ => n - (intOf i).toNat)
  case atStart => exact ⟨0, by omega, rfl, hown1, by rw [HG.out]; exact hb3⟩
  case round =>
    clear hown1 hb3
    obtain ⟨k, hk, rfl, hown, hbel⟩ := hrel
    have hbw : Below w2.heap.size w2 wr := by rw [← HG.out]; exact hbel
    have hfz := hown.frozenAt k
    have hcl : wr.cell? ⟨g, k, none⟩ = some (.string ((filling S (n + 1) k).getD k ByteArray.empty)) := by
      rw [hown.cellAt k (by omega)]
      exact strV_get _ _ (by rw [filling_len _ _ _ HSl.out (by omega)]; omega)
    have put : ∀ s, S[k]? = some s → (wr.setCell ⟨g, k, none⟩ (.string s)).ownsRow g 9 1 (.slice (some ⟨g, 0, none⟩) (n + 1) (n + 1)) (n + 1) (strV (filling S (n + 1) (k + 1))) := fun s hs' => by
      have h1 := (hown.stored k (.string s)).1
      have h2 : (strV (filling S (n + 1) k)).set k (.string s) = strV (filling S (n + 1) (k + 1)) := by
        unfold strV
        rw [← List.map_set, filling_set _ _ _ HSl.out s hs']
      rw [← h2]; exact h1
    have HPUT : Hid (∀ s, S[k]? = some s → (wr.setCell ⟨g, k, none⟩ (.string s)).ownsRow g 9 1 (.slice (some ⟨g, 0, none⟩) (n + 1) (n + 1)) (n + 1) (strV (filling S (n + 1) (k + 1)))) := put
    clear put
    by_cases hlt : k < n
    · obtain ⟨bH, oH, rfl, hbH, hcellH⟩ := hsH2.cells (by omega)
      have hck := (hbw.cell (p := ⟨bH, oH + k, none⟩) hbH).trans (hcellH k hlt)
      obtain ⟨s, hs'⟩ : ∃ s, s = hs.getD k ByteArray.empty := ⟨_, rfl⟩
      rw [← hs'] at hck
      have hown2 := HPUT.out s (by
        have hk' : k < hs.length := by rw [hhl.out]; exact hlt
        rw [HS.out, List.getElem?_append_left hk', hs']
        simp [hk'])
      have hb4 : Below g w2 (wr.setCell ⟨g, k, none⟩ (.string s)) := hbel.setCell (p := ⟨g, k, none⟩) (Nat.le_refl _) _
      have hki : (k : Int) < (n : Int) + 1 := by omega
      clear hs' hcellH hown HPUT hbel hbw
      go_wp2
      go_roundw
      case rel => exact ⟨k + 1, by omega, by go_num, hown2, hb4⟩
      case measure => simp [intOf]; omega
    · obtain rfl : k = n := by omega
      have hck := (hbw.cell (p := ⟨bO, oO, none⟩) hbO).trans hc0
      have hown2 := HPUT.out o0 (by rw [HS.out, ← hhl.out]; simp)
      have hb4 : Below w2.heap.size w2 (wr.setCell ⟨g, k, none⟩ (.string o0)) := hbw.setCell (p := ⟨g, k, none⟩) (by rw [HG.out]; exact Nat.le_refl _) _
      rw [filling_full _ _ HSl.out] at hown2
      have hki : (k : Int) < (k : Int) + 1 := by omega
      have hm0i : (0 : Int) < (m : Int) := by omega
      clear hown HPUT hbel hbw hlt hk
      obtain ⟨X, hX⟩ : ∃ X, X = wr.setCell ⟨g, k, none⟩ (.string o0) := ⟨_, rfl⟩
      have hwX : wr.setCell ⟨g, k, none⟩ (.string o0) = X := hX.symm
      rw [← hX] at hown2 hb4
      obtain ⟨sp, hsp⟩ : ∃ sp : List UInt8, sp = if (os.drop 1).length = 0 then [32, 111, 114, 32] else [44, 32] := ⟨_, rfl⟩
      have HSP : Hid (sp = if (os.drop 1).length = 0 then [32, 111, 114, 32] else [44, 32]) := hsp
      have hspl : sp.length ≤ 4 := by rw [hsp]; split <;> simp
      clear hX hsp
      go_upto_if 57 with fail
      go_cut [7] from 11 (fun v wx => v = .string (str sp) ∧ X = wx)
      case first =>
        by_cases hm1' : m = 1
        · have hd : ((m : Int) == 1) = true := by simp; omega
          have he : str sp = ⟨#[32, 111, 114, 32]⟩ := by rw [HSP.out, if_pos (by have := hol.out; simp; omega)]; rfl
          clear hm1'
          go_wp2
          go_meet
          case rel => exact ⟨by rw [he], rfl⟩
        · have hd : ((m : Int) == 1) = false := by simp; omega
          have he : str sp = ⟨#[44, 32]⟩ := by rw [HSP.out, if_neg (by have := hol.out; simp; omega)]; rfl
          clear hm1'
          go_wp2
          go_meet
          case rel => exact ⟨by rw [he], rfl⟩
      case rest =>
        obtain ⟨rfl, rfl⟩ := hcut
        clear hwX hck hcl hfz
        have hbX : Below w.heap.size w X := hb2.trans (hb4.mono hb2.size)
        have hsHX := hsH2.later hb4
        have hsOX := hsO.later hb4
        obtain ⟨ax, cx, hv, hsLX⟩ := owned_strs (xs := S) hown2
        simp only [Value.slice.injEq] at hv
        obtain ⟨rfl, -, rfl⟩ := hv
        go_wp2_with fail
        refine (show8 aH k cH hs (some ⟨bO, oO, none⟩) m cO os X hsHX hsOX hnH (fun h => by cases h) hcO.1 hw hm1).mono ?_
        rintro e w5 ⟨rfl, hb5⟩
        go_wp2_with fail
        refine (show8 aH k cH hs none 0 0 [] w5 (hsHX.later hb5) ⟨rfl, by omega, fun h => absurd h (by omega)⟩ hnH (fun _ => rfl) (by omega) (by simp [weigh]; omega) (by omega)).mono ?_
        rintro e w6 ⟨rfl, hb6⟩
        have hb6' : Below X.heap.size X w6 := hb5.trans (hb6.mono hb5.size)
        have hsL6 := hsLX.later hb6'
        have hsO6 := hsOX.later hb6'
        have hdl : (os.drop 1).length = m - 1 := by rw [List.length_drop, hol.out]
        have hwS : weigh S + weigh (os.drop 1) ≤ 65536 := by
          have h1 := HO.out
          have h2 : weigh os = weigh (o0 :: os.drop 1) := congrArg weigh h1
          rw [HS.out, weigh_append]
          simp only [weigh] at h2 ⊢
          omega
        have HEQ : Hid (showL hs os = showL hs [] ++ sp ++ showL S (os.drop 1)) := by
          have h1 := Plain.showL_cons hs o0 (os.drop 1)
          rw [← HO.out] at h1
          unfold Hid
          rw [h1, Plain.showL_nil, HSP.out, HS.out]
        have l1 := showL_le hs [] (by simp [weigh]; omega) (by simp)
        have l2 := showL_le S (os.drop 1) hwS (by rw [hdl]; omega)
        obtain ⟨F, hF⟩ : ∃ F, F = showL hs [] := ⟨_, rfl⟩
        obtain ⟨T, hT⟩ : ∃ T, T = showL S (os.drop 1) := ⟨_, rfl⟩
        rw [← hF, ← hT] at HEQ
        rw [← hF] at l1
        rw [← hT] at l2
        have n1 : ¬ 9223372036854775807 < (str F).size + (str sp).size := by rw [str_size, str_size]; omega
        have n2 : ¬ 9223372036854775807 < (str F).size + (str sp).size + (str T).size := by rw [str_size, str_size, str_size]; omega
        have heq : ((str (showL hs os)).toList == (str F ++ str sp ++ str T).toList) = true := by rw [str_add, str_add, ← HEQ.out]; simp
        have HT : Hid (T = showL S (os.drop 1)) := hT
        rw [← hF]
        clear hF hT HEQ
        by_cases hc1 : cO = 1
        · have hst : Strs w6 (some ⟨bO, oO, none⟩) 0 (os.drop 1) := ⟨by rw [hdl]; omega, by omega, fun h => absurd h (by omega)⟩
          subst hc1
          clear hdl hsO6
          go_wp2_with fail
          refine (show8 (some ⟨g, 0, none⟩) (k + 1) (k + 1) S (some ⟨bO, oO, none⟩) 0 0 (os.drop 1) w6 hsL6 hst (fun h => by cases h) (fun h => by cases h) (by omega) hwS (by omega)).mono ?_
          rw [← HT.out]
          rintro e w7 ⟨rfl, hb7⟩
          have hend : Below w.heap.size w w7 := hbX.trans ((hb6'.trans (hb7.mono hb6'.size)).mono hbX.size)
          clear hb5 hb6 hb6' hb7 hsHX hsOX hsLX
          go_wp2
          go_ret
          exact ⟨rfl, hend⟩
        · have hst : Strs w6 (some ⟨bO, oO + 1, none⟩) (m - 1) (os.drop 1) := ⟨hdl, by omega, fun h0 => by
            obtain ⟨b1, o1, he, hb, hc⟩ := hsO6.cells (by omega)
            cases he
            refine ⟨bO, oO + 1, rfl, hb, fun i hi => ?_⟩
            rw [Nat.add_assoc, hc (1 + i) (by omega)]
            simp [List.getD, Nat.add_comm]⟩
          clear hdl hsO6
          go_wp2_with fail
          refine (show8 (some ⟨g, 0, none⟩) (k + 1) (k + 1) S (some ⟨bO, oO + 1, none⟩) (m - 1) (cO - 1) (os.drop 1) w6 hsL6 hst (fun h => by cases h) (fun h => by cases h) (by omega) hwS (by omega)).mono ?_
          rw [← HT.out]
          rintro e w7 ⟨rfl, hb7⟩
          have hend : Below w.heap.size w w7 := hbX.trans ((hb6'.trans (hb7.mono hb6'.size)).mono hbX.size)
          clear hb5 hb6 hb6' hb7 hsHX hsOX hsLX
          go_wp2
          go_ret
          exact ⟨rfl, hend⟩
end Go.Proofs.Qxb6600863a
