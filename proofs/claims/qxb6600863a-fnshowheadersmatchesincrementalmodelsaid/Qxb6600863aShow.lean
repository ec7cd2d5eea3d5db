import Derived.Test.Qxb6600863aConcat
import Derived.Test.Qxb6600863aPlain
import Derived.Test.Qxb6600863aShelf
import Derived.Lib.QuietBelow
namespace Go.Proofs.Qxb6600863a
open Go.ChangeShapes Go.WideShapes Go.ChangeAt Go.RowKit Go.Sort
open Plain (dat jn alt showL)

/-- A list of bytes as a string. -/
def str (l : List UInt8) : ByteArray := ⟨l.toArray⟩
theorem str_data (l : List UInt8) : (str l).data.toList = l := by simp [str]
theorem str_size (l : List UInt8) : (str l).size = l.length := by simp [str, ByteArray.size]
theorem str_add (x y : List UInt8) : str x ++ str y = str (x ++ y) := ByteArray.mk_append_mk ..
theorem of_data (s : ByteArray) : str s.data.toList = s := by cases s; simp [str]

/-- The joined names weigh no more than the names. -/
theorem jn_le (xs : List ByteArray) : (jn xs).length ≤ weigh xs := by
  refine Nat.le_trans (Plain.join_le _ _) ?_
  induction xs with
  | nil => simp [dat, Plain.tot, weigh]
  | cons x r ih =>
    simp only [dat, List.map_cons, Plain.tot, weigh, List.length_singleton] at *
    have := Lib.size_eq x
    omega

/-- 'strings.Join' of whatever slice of strings. -/
theorem join14 (ao : Option Addr) (n c : Nat) (xs : List ByteArray) (sep : ByteArray) (w : World) (h : Strs w ao n xs) (hc : n ≤ c) (hb : n ≤ 65536) (hlen : (Lib.join (dat xs) sep.data.toList).length ≤ 140737488355328) :
    Calls Try.prog 14 #[.slice ao n c, .string sep] w fun e w' => e = .returned (.string (str (Lib.join (dat xs) sep.data.toList))) ∧ Below w.heap.size w w' := by
  have hl := h.length
  rcases Nat.eq_zero_or_pos n with h0 | h0
  · subst h0
    obtain rfl : xs = [] := List.eq_nil_of_length_eq_zero hl
    exact (Try.strings_Join_none ao c sep w).mono fun e w' ⟨h1, h2⟩ => ⟨h1, by rw [h2]; exact Below.refl _ _⟩
  · obtain ⟨b, off, rfl, hbl, hcell⟩ := h.cells h0
    rw [← hl]
    refine Try.strings_Join b off c xs sep w (fun j x hj => ?_) hbl (by omega) (by omega) hlen
    obtain ⟨hj', rfl⟩ := List.getElem?_eq_some_iff.1 hj
    rw [hcell j (by omega)]
    simp [hj']

/-- All that showHeaders shows, as strings. -/
def shownS (hs os : List ByteArray) : List ByteArray := (List.range (os.length + 1)).map fun i => str (alt hs os i)
theorem shownS_len (hs os : List ByteArray) : (shownS hs os).length = os.length + 1 := by simp [shownS]
theorem shownS_get (hs os : List ByteArray) (i : Nat) (h : i < os.length + 1) : (shownS hs os)[i]? = some (str (alt hs os i)) := by simp [shownS, h]
theorem shownS_take (hs os : List ByteArray) : dat ((shownS hs os).take os.length) = (List.range os.length).map (alt hs os) := by
  unfold dat shownS
  rw [← List.map_take, List.map_map, List.take_range, Nat.min_eq_left (Nat.le_succ _)]
  exact List.map_congr_left (fun i _ => str_data _)

theorem alt_le (hs os : List ByteArray) (i : Nat) : (alt hs os i).length ≤ weigh hs + weigh os := by
  refine Nat.le_trans (jn_le _) ?_
  have h1 := weigh_append hs (os.take i)
  have h2 := weigh_append (os.take i) (os.drop i)
  rw [List.take_append_drop] at h2
  omega

theorem weigh_len : ∀ (xs : List ByteArray), xs.length * 16 ≤ weigh xs
  | [] => by simp [weigh]
  | x :: r => by have := weigh_len r; simp only [List.length_cons, weigh]; omega

theorem ownsRow_of_block {w w' : World} {base : Nat} {e : TypeId} {size g n cap : Nat} {xs : List Value} (h : w.ownsRow base e size (.slice (some ⟨g, 0, none⟩) n cap) n xs) (hb : w'.heap[g]? = w.heap[g]?) :
    w'.ownsRow base e size (.slice (some ⟨g, 0, none⟩) n cap) n xs := by
  refine ⟨h.1, ?_⟩
  rcases h.2 with ⟨h', _⟩ | ⟨g', cap', cur, h', hbb, hg, r⟩
  · simp at h'
  · simp only [Value.slice.injEq, Option.some.injEq, Addr.mk.injEq, and_true, true_and] at h'
    obtain ⟨rfl, rfl⟩ := h'
    exact .inr ⟨g, cap, cur, rfl, hbb, hb.trans hg, r⟩

theorem Strs.take {w : World} {a : Option Addr} {n : Nat} {xs : List ByteArray} (h : Strs w a n xs) (k : Nat) (hk : k ≤ n) : Strs w a k (xs.take k) :=
  ⟨by have := h.length; simp; omega, by have := h.small; omega, fun h0 => by
    obtain ⟨b, off, ha, hb, hc⟩ := h.cells (by omega)
    refine ⟨b, off, ha, hb, fun i hi => ?_⟩
    rw [hc i (by omega)]
    simp [List.getD, hi]⟩

theorem owned_cap {w : World} {base : Nat} {e : TypeId} {ao : Option Addr} {n cap : Nat} {xs : List Value} (h : w.ownsRow base e 1 (.slice ao n cap) n xs) : n ≤ cap ∧ cap ≤ 9223372036854775807 := by
  rcases h.2 with ⟨hv, rfl⟩ | ⟨g, c, cur, hv, _, _, hnc, hcm, _⟩
  · simp only [Value.slice.injEq] at hv; omega
  · simp only [Value.slice.injEq, true_and] at hv
    obtain ⟨_, rfl⟩ := hv
    unfold maxLen at hcm; omega

/-- The list as it fills. -/
def filling (S : List ByteArray) (N k : Nat) : List ByteArray := S.take k ++ List.replicate (N - k) ByteArray.empty
theorem filling_len (S : List ByteArray) (N k : Nat) (hS : S.length = N) (hk : k ≤ N) : (filling S N k).length = N := by simp [filling]; omega
theorem filling_set (S : List ByteArray) (N k : Nat) (hS : S.length = N) (s : ByteArray) (hs : S[k]? = some s) : (filling S N k).set k s = filling S N (k + 1) := by
  obtain ⟨hk, rfl⟩ := List.getElem?_eq_some_iff.1 hs
  unfold filling
  rw [← hS]; exact fill_set S ByteArray.empty k hk
theorem filling_full (S : List ByteArray) (N : Nat) (hS : S.length = N) : filling S N N = S := by
  unfold filling
  rw [Nat.sub_self, List.take_of_length_le (by omega)]; simp

set_option maxRecDepth 20000 in
set_option maxHeartbeats 2000000 in
theorem show11s (a : Option Addr) (n c : Nat) (hs : List ByteArray) (ad : Addr) (m c' : Nat) (os : List ByteArray) (w : World) (hx : Strs w a n hs) (hy : Strs w (some ad) m os) (hn : a = none → c = 0) (hmc : m ≤ c')
    (hw : weigh hs + weigh os ≤ 65536) (hm : m ≤ 256) :
    Calls Try.prog 11 #[.slice a n c, .slice (some ad) m c'] w fun e w' => e = .returned (.string (str (showL hs os))) ∧ Below w.heap.size w w' := by
  have hol : Hid (os.length = m) := hy.length
  have hhl : Hid (hs.length = n) := hx.length
  have hnm : n + m ≤ 4096 := by
    have h1 := weigh_len hs; have h2 := weigh_len os
    rw [hhl.out] at h1; rw [hol.out] at h2; omega
  have hSl : Hid ((shownS hs os).length = m + 1) := by unfold Hid; rw [shownS_len, hol.out]
  obtain ⟨i0, hi, hz0, hz1, hz2⟩ := info_parts Try.info9
  go_enter Try.func11, Try.ntmps11
  go_wp2_with (at_make; refine wpList_make_full _ rfl _ _ 22 rfl w.heap.size 9 i0 (.string ByteArray.empty) 1 Try.underlying22 hi hz0 hz1 _ _ _ _ (m + 1) rfl rfl ?b5 ?b6 ?b2 ?b3 ?b4 ?_)
  case b5 => omega
  case b6 => omega
  case b2 => rw [hz2]; omega
  case b3 => unfold maxLen; omega
  case b4 => exact Nat.le_refl _
  intro w1 hown hgr
  have hb1 : Below w.heap.size w w1 := (Below.refl _ _).grown hgr (Nat.le_refl _) (fun k hk => by cases hk)
  have hown1 : w1.ownsRow w.heap.size 9 1 (.slice (some ⟨w.heap.size, 0, none⟩) (m + 1) (m + 1)) (m + 1) (strV (filling (shownS hs os) (m + 1) 0)) := by
    have e1 : (madeCells #[Value.string ByteArray.empty] (m + 1)).toList = strV (filling (shownS hs os) (m + 1) 0) := by
      rw [toList_madeCells_one]; simp [strV, filling]
    rw [← e1]; exact hown
  clear hown hgr hi hz0 hz1 hz2
  obtain ⟨g, hg⟩ : ∃ g, g = w.heap.size := ⟨_, rfl⟩
  have HG : Hid (g = w.heap.size) := hg
  rw [← hg] at hown1 ⊢
  clear hg
  go_wp2
  go_loopw [14] (fun i wr => ∃ k : Nat, k ≤ m + 1 ∧ i = .int .i64 k ∧ wr.ownsRow g 9 1 (.slice (some ⟨g, 0, none⟩) (m + 1) (m + 1)) (m + 1) (strV (filling (shownS hs os) (m + 1) k)) ∧ Below g w wr) (fun i _ => (m + 1) - (intOf i).toNat)
  case atStart => exact ⟨0, by omega, rfl, hown1, by rw [HG.out]; exact hb1⟩
  case round =>
    clear hown1 hb1
    obtain ⟨k, hk, rfl, hown, hbel⟩ := hrel
    have hbw : Below w.heap.size w wr := by rw [← HG.out]; exact hbel
    have hsz := hbw.size
    by_cases hlt : k < m + 1
    · have hxw := hx.later hbw
      have hyw := hy.later hbw
      have hki : (k : Int) < (m : Int) + 1 := by omega
      have hkc : (k : Int) ≤ (c' : Int) := by omega
      obtain ⟨X, hX⟩ : ∃ X, X = wr.alloc (.cells #[.slice a n c, .slice (some ad) k c'] 22) := ⟨_, rfl⟩
      have hbX : Below wr.heap.size wr X := by rw [hX]; exact (Below.refl _ _).alloc (Nat.le_refl _) _
      have hXn : X.heap[wr.heap.size]? = some (.cells #[.slice a n c, .slice (some ad) k c'] 22 (0, 0)) := by rw [hX]; exact heap_alloc_new wr _
      have hX0 : X.cell? ⟨wr.heap.size, 0, none⟩ = some (.slice a n c) := by rw [cell_of_row X _ 0 _ 22 (0, 0) hXn]; rfl
      have hX1 : X.cell? ⟨wr.heap.size, 1, none⟩ = some (.slice (some ad) k c') := by rw [cell_of_row X _ 1 _ 22 (0, 0) hXn]; rfl
      have hXl : wr.heap.size < X.heap.size := (Array.getElem?_eq_some_iff.1 hXn).1
      have hgl : g < wr.heap.size := (hown.lt g rfl).2
      have hAL : Hid ((hs ++ os.take k).length ≤ 4096) := by
        have h1 := hhl.out; have h2 := hol.out
        unfold Hid; simp; omega
      go_wp2_with fail
      rw [← hX]
      refine (concat15 wr.heap.size a n c hs (some ad) k c' (os.take k) X hXl hX0 hX1 (hxw.later hbX) ((hyw.later hbX).take k (by omega)) hn (fun h => by cases h) (by omega)).mono ?_
      intro e w2 hr
      obtain ⟨ao2, c2, rfl, ho2, hs2, _, hg2⟩ := hr.open
      have hcap := (owned_cap ho2).1
      obtain ⟨L, hL⟩ : ∃ L, L = (hs ++ os.take k).length := ⟨_, rfl⟩
      rw [← hL] at hs2 hcap ⊢
      have hL4 : L ≤ 4096 := by rw [hL]; exact hAL.out
      have hg2' : w2.heap[g]? = wr.heap[g]? := (hg2.block g (by omega) (by simp)).trans (hbX.block g hgl)
      have hb2 : Below w.heap.size w w2 := ((hbw.trans (hbX.mono hsz)).grown hg2 (by omega) (fun x hx => by cases hx))
      have hs2sz : wr.heap.size ≤ w2.heap.size := by have := hg2.size; omega
      clear hr hX hXn hX0 hX1 hbX hXl hxw hyw hg2 ho2 hL hAL
      go_wp2_with fail
      refine (join14 ao2 L c2 (hs ++ os.take k) ⟨#[44]⟩ w2 hs2 hcap (by omega) ?_).mono ?_
      · have := alt_le hs os k
        show (alt hs os k).length ≤ _
        omega
      rintro e w3 ⟨rfl, hb3⟩
      have hown3 : w3.ownsRow g 9 1 (.slice (some ⟨g, 0, none⟩) (m + 1) (m + 1)) (m + 1) (strV (filling (shownS hs os) (m + 1) k)) := ownsRow_of_block hown ((hb3.block g (by omega)).trans hg2')
      have hb3' : Below w.heap.size w w3 := hb2.trans (hb3.mono hb2.size)
      have hstv : str (Lib.join (dat (hs ++ os.take k)) (⟨#[44]⟩ : ByteArray).data.toList) = str (alt hs os k) := rfl
      rw [hstv]
      have hfz := hown3.frozenAt k
      have hcl : w3.cell? ⟨g, k, none⟩ = some (.string ((filling (shownS hs os) (m + 1) k).getD k ByteArray.empty)) := by
        rw [hown3.cellAt k (by omega)]
        exact strV_get _ _ (by rw [filling_len _ _ _ hSl.out hk]; exact hlt)
      obtain ⟨sv, hsv⟩ : ∃ sv, sv = str (alt hs os k) := ⟨_, rfl⟩
      have hown4 : (w3.setCell ⟨g, k, none⟩ (.string sv)).ownsRow g 9 1 (.slice (some ⟨g, 0, none⟩) (m + 1) (m + 1)) (m + 1) (strV (filling (shownS hs os) (m + 1) (k + 1))) := by
        have h1 := (hown3.stored k (.string sv)).1
        have h2 : (strV (filling (shownS hs os) (m + 1) k)).set k (.string sv) = strV (filling (shownS hs os) (m + 1) (k + 1)) := by
          unfold strV
          rw [← List.map_set, filling_set _ _ _ hSl.out sv (by rw [hsv]; exact shownS_get hs os k (by rw [hol.out]; exact hlt))]
        rw [← h2]; exact h1
      have hb4 : Below g w (w3.setCell ⟨g, k, none⟩ (.string sv)) := by rw [HG.out]; exact hb3'.setCell (p := ⟨w.heap.size, k, none⟩) (Nat.le_refl _) _
      rw [← hsv]
      clear hsv hstv hown3 hown hb3' hb3 hb2 hg2' hs2 hbel hbw
      go_wp2
      go_roundw
      case rel => exact ⟨k + 1, by omega, by go_num, hown4, hb4⟩
      case measure => simp [intOf]; omega
    · obtain rfl : k = m + 1 := by omega
      rw [filling_full _ _ hSl.out] at hown
      clear hlt hk hbel
      by_cases hm0 : m = 0
      · subst hm0
        have hc0 : wr.cell? ⟨g, 0, none⟩ = some (.string (str (alt hs os 0))) := by
          rw [hown.cellAt 0 (by omega)]
          unfold strV
          rw [List.getElem?_map, shownS_get hs os 0 (by omega)]; rfl
        have hsh : Hid (showL hs os = alt hs os 0) := by unfold Hid showL; rw [if_pos hol.out]
        clear hown
        go_wp2
        go_ret
        exact ⟨by rw [hsh.out]; rfl, hbw⟩
      · have hne : ((m : Int) == 0) = false := by simp; omega
        have hcm : wr.cell? ⟨g, m, none⟩ = some (.string (str (alt hs os m))) := by
          rw [hown.cellAt m (by omega)]
          unfold strV
          rw [List.getElem?_map, shownS_get hs os m (by rw [hol.out]; omega)]; rfl
        obtain ⟨ax, cx, hv, hst⟩ := owned_strs (xs := shownS hs os) hown
        simp only [Value.slice.injEq] at hv
        obtain ⟨rfl, -, rfl⟩ := hv
        have hst' : Strs wr (some ⟨g, 0, none⟩) m ((shownS hs os).take m) := hst.take m (by omega)
        have hdat : dat ((shownS hs os).take m) = (List.range m).map (alt hs os) := by rw [← hol.out]; exact shownS_take hs os
        have hjl : (Lib.join ((List.range m).map (alt hs os)) [44, 32]).length ≤ 16777728 := by
          refine Nat.le_trans (Plain.join_le _ _) (Nat.le_trans (Plain.tot_le _ _ 65536 (fun x hx => ?_)) ?_)
          · obtain ⟨i, _, rfl⟩ := List.mem_map.1 hx
            have := alt_le hs os i; omega
          · simp only [List.length_map, List.length_range, List.length_cons, List.length_nil]
            have : m * (65536 + (0 + 1 + 1)) ≤ 256 * (65536 + (0 + 1 + 1)) := Nat.mul_le_mul_right _ hm
            omega
        have cJ : ∀ d osq, Calls Try.prog 14 #[.slice (some ⟨g, 0, none⟩) m (m + 1), .string ⟨#[44, 32]⟩] (grow (redrawn wr d) osq) fun e w'' => e = .returned (.string (str (Lib.join ((List.range m).map (alt hs os)) [44, 32]))) ∧ ∃ r : Regrown, w'' = grow (redrawn wr r.d) r.os := fun d osq => by
          refine Calls.regrown_of ?_
          have := join14 (some ⟨g, 0, none⟩) m (m + 1) ((shownS hs os).take m) ⟨#[44, 32]⟩ (grow (redrawn wr d) osq) (hst'.later (below_regrown wr d osq)) (by omega) (by omega) (by
            rw [hdat]; exact Nat.le_trans hjl (by omega))
          rw [hdat] at this
          exact this
        have hal := alt_le hs os m
        obtain ⟨A, hA⟩ : ∃ A, A = Lib.join ((List.range m).map (alt hs os)) [44, 32] := ⟨_, rfl⟩
        rw [← hA] at cJ hjl
        obtain ⟨D, hD⟩ : ∃ D, D = alt hs os m := ⟨_, rfl⟩
        rw [← hD] at hcm hal
        have hsh : Hid (showL hs os = A ++ [32, 111, 114, 32] ++ D) := by
          unfold Hid showL
          rw [if_neg (by rw [hol.out]; exact hm0), hA, hD, hol.out]
        have n1 : ¬ 9223372036854775807 < (str A).size + 4 := by rw [str_size]; omega
        have n2 : ¬ 9223372036854775807 < (str A).size + 4 + (str D).size := by rw [str_size, str_size]; omega
        have r0 := cell_regrown hcm
        have hmi : (m : Int) < (m : Int) + 1 := by omega
        have hmi2 : (m : Int) ≤ (m : Int) + 1 := by omega
        clear hA hD hdat hst hst' hown hcm
        go_wp2
        refine wp_region_quiet_below (by kernel_rfl) (by kernel_rfl) ?_
        repeat (first | go_big_quiet_step (with_reducible exact cJ _ _) | quiet_step (with_reducible exact cJ _ _))
        refine wpQuiet_nil ?_
        intro _ hw'
        obtain ⟨⟨dq, osq⟩, hw''⟩ := hw'
        subst hw''
        have hb9 : Below w.heap.size w (grow (redrawn wr dq) osq) := hbw.trans ((below_regrown wr dq osq).mono hsz)
        go_wp2
        go_ret
        refine ⟨?_, hb9⟩
        rw [hsh.out, ← str_add, ← str_add]
        rfl

set_option maxRecDepth 20000 in
set_option maxHeartbeats 2000000 in
theorem show11n (a : Option Addr) (n c : Nat) (hs : List ByteArray) (w : World) (hx : Strs w a n hs) (hn : a = none → c = 0) (hw : weigh hs ≤ 65536) :
    Calls Try.prog 11 #[.slice a n c, .slice none 0 0] w fun e w' => e = .returned (.string (str (showL hs []))) ∧ Below w.heap.size w w' := by
  have hhl : Hid (hs.length = n) := hx.length
  have hnm : n ≤ 4096 := by
    have h1 := weigh_len hs
    rw [hhl.out] at h1; omega
  obtain ⟨i0, hi, hz0, hz1, hz2⟩ := info_parts Try.info9
  go_enter Try.func11, Try.ntmps11
  go_wp2_with (at_make; refine wpList_make_full _ rfl _ _ 22 rfl w.heap.size 9 i0 (.string ByteArray.empty) 1 Try.underlying22 hi hz0 hz1 _ _ _ _ 1 rfl rfl rfl rfl ?b2 ?b3 ?b4 ?_)
  case b2 => rw [hz2]; decide
  case b3 => unfold maxLen; decide
  case b4 => exact Nat.le_refl _
  intro w1 hown hgr
  have hb1 : Below w.heap.size w w1 := (Below.refl _ _).grown hgr (Nat.le_refl _) (fun k hk => by cases hk)
  obtain ⟨V, hV⟩ : ∃ V, V = (madeCells #[Value.string ByteArray.empty] 1).toList := ⟨_, rfl⟩
  rw [← hV] at hown
  clear hgr hi hz0 hz1 hz2 hV
  obtain ⟨g, hg⟩ : ∃ g, g = w.heap.size := ⟨_, rfl⟩
  have HG : Hid (g = w.heap.size) := hg
  rw [← hg] at hown ⊢
  clear hg
  go_wp2
  go_loopw [14] (fun i wr => ∃ (k : Nat) (U : List Value), k ≤ 1 ∧ i = .int .i64 k ∧ wr.ownsRow g 9 1 (.slice (some ⟨g, 0, none⟩) 1 1) 1 U ∧ Hid (k = 1 → U[0]? = some (.string (str (jn hs)))) ∧ Below g w wr) (fun i _ => 1 - (intOf i).toNat)
  case atStart => exact ⟨0, V, by omega, rfl, hown, fun h => by omega, by rw [HG.out]; exact hb1⟩
  case round =>
    clear hown hb1
    obtain ⟨k, U, hk, rfl, hown, HU, hbel⟩ := hrel
    have hbw : Below w.heap.size w wr := by rw [← HG.out]; exact hbel
    have hsz := hbw.size
    have hUl : U.length = 1 := by have := hown.1; omega
    by_cases hlt : k < 1
    · obtain rfl : k = 0 := by omega
      have hxw := hx.later hbw
      obtain ⟨X, hX⟩ : ∃ X, X = wr.alloc (.cells #[.slice a n c, .slice none 0 0] 22) := ⟨_, rfl⟩
      have hbX : Below wr.heap.size wr X := by rw [hX]; exact (Below.refl _ _).alloc (Nat.le_refl _) _
      have hXn : X.heap[wr.heap.size]? = some (.cells #[.slice a n c, .slice none 0 0] 22 (0, 0)) := by rw [hX]; exact heap_alloc_new wr _
      have hX0 : X.cell? ⟨wr.heap.size, 0, none⟩ = some (.slice a n c) := by rw [cell_of_row X _ 0 _ 22 (0, 0) hXn]; rfl
      have hX1 : X.cell? ⟨wr.heap.size, 1, none⟩ = some (.slice none 0 0) := by rw [cell_of_row X _ 1 _ 22 (0, 0) hXn]; rfl
      have hXl : wr.heap.size < X.heap.size := (Array.getElem?_eq_some_iff.1 hXn).1
      have hgl : g < wr.heap.size := (hown.lt g rfl).2
      go_wp2_with fail
      rw [← hX]
      refine (concat15 wr.heap.size a n c hs none 0 0 [] X hXl hX0 hX1 (hxw.later hbX) ⟨rfl, by omega, fun h => absurd h (by omega)⟩ hn (fun _ => rfl) (by omega)).mono ?_
      intro e w2 hr
      rw [List.append_nil] at hr
      obtain ⟨ao2, c2, rfl, ho2, hs2, _, hg2⟩ := hr.open
      have hcap := (owned_cap ho2).1
      rw [hhl.out] at hs2 hcap ⊢
      have hg2' : w2.heap[g]? = wr.heap[g]? := (hg2.block g (by omega) (by simp)).trans (hbX.block g hgl)
      have hb2 : Below w.heap.size w w2 := ((hbw.trans (hbX.mono hsz)).grown hg2 (by omega) (fun x hx => by cases hx))
      have hs2sz : wr.heap.size ≤ w2.heap.size := by have := hg2.size; omega
      clear hr hX hXn hX0 hX1 hbX hXl hxw hg2 ho2
      go_wp2_with fail
      refine (join14 ao2 n c2 hs ⟨#[44]⟩ w2 hs2 hcap (by omega) ?_).mono ?_
      · have := jn_le hs
        show (jn hs).length ≤ _
        omega
      rintro e w3 ⟨rfl, hb3⟩
      have hown3 : w3.ownsRow g 9 1 (.slice (some ⟨g, 0, none⟩) 1 1) 1 U := ownsRow_of_block hown ((hb3.block g (by omega)).trans hg2')
      have hb3' : Below w.heap.size w w3 := hb2.trans (hb3.mono hb2.size)
      have hstv : str (Lib.join (dat hs) (⟨#[44]⟩ : ByteArray).data.toList) = str (jn hs) := rfl
      rw [hstv]
      have hfz := hown3.frozenAt 0
      have hcl : w3.cell? ⟨g, 0, none⟩ = some (U[0]'(by omega)) := by
        rw [hown3.cellAt 0 (by omega)]; exact List.getElem?_eq_getElem _
      obtain ⟨sv, hsv⟩ : ∃ sv, sv = str (jn hs) := ⟨_, rfl⟩
      have hown4 := (hown3.stored 0 (.string sv)).1
      have HU4 : Hid ((U.set 0 (.string sv))[0]? = some (.string (str (jn hs)))) := by unfold Hid; rw [hsv, List.getElem?_set_self (by omega)]
      have hb4 : Below g w (w3.setCell ⟨g, 0, none⟩ (.string sv)) := by rw [HG.out]; exact hb3'.setCell (p := ⟨w.heap.size, 0, none⟩) (Nat.le_refl _) _
      rw [← hsv]
      clear hsv hstv hown3 hown hb3' hb3 hb2 hg2' hs2 hbel hbw HU
      go_wp2
      go_roundw
      case rel =>
        first | exact ⟨1, U.set 0 (.string sv), by omega, by go_num, hown4, fun _ => HU4.out, hb4⟩ | ((repeat apply Exists.intro); exact ⟨⟨1, U.set 0 (.string sv), by omega, by go_num, hown4, fun _ => HU4.out, hb4⟩, rfl⟩)
      case measure => simp [intOf]
    · obtain rfl : k = 1 := by omega
      have hc0 : wr.cell? ⟨g, 0, none⟩ = some (.string (str (jn hs))) := by
        rw [hown.cellAt 0 (by omega)]; exact HU.out rfl
      have hsh : Hid (showL hs [] = jn hs) := Plain.showL_nil hs
      clear hlt hk hbel hown HU
      go_wp2
      go_ret
      exact ⟨by rw [hsh.out]; rfl, hbw⟩

theorem show11 (a : Option Addr) (n c : Nat) (hs : List ByteArray) (a' : Option Addr) (m c' : Nat) (os : List ByteArray) (w : World) (hx : Strs w a n hs) (hy : Strs w a' m os) (hn : a = none → c = 0) (hn' : a' = none → c' = 0) (hmc : m ≤ c')
    (hw : weigh hs + weigh os ≤ 65536) (hm : m ≤ 256) :
    Calls Try.prog 11 #[.slice a n c, .slice a' m c'] w fun e w' => e = .returned (.string (str (showL hs os))) ∧ Below w.heap.size w w' := by
  cases a' with
  | some ad => exact show11s a n c hs ad m c' os w hx hy hn hmc hw hm
  | none =>
    obtain rfl := hn' rfl
    obtain rfl : m = 0 := by omega
    obtain rfl : os = [] := List.eq_nil_of_length_eq_zero hy.length
    exact show11n a n c hs w hx hn (by omega)

theorem show8 (a : Option Addr) (n c : Nat) (hs : List ByteArray) (a' : Option Addr) (m c' : Nat) (os : List ByteArray) (w : World) (hx : Strs w a n hs) (hy : Strs w a' m os) (hn : a = none → c = 0) (hn' : a' = none → c' = 0) (hmc : m ≤ c')
    (hw : weigh hs + weigh os ≤ 65536) (hm : m ≤ 256) :
    Calls Try.prog 8 #[.slice a n c, .slice a' m c'] w fun e w' => e = .returned (.string (str (showL hs os))) ∧ Below w.heap.size w w' := by
  go_enter Try.func8, Try.ntmps8
  go_wp2_with (go_at_call 11; refine (show11 a n c hs a' m c' os _ hx hy hn hn' hmc hw hm).mono ?_; rintro e w' ⟨rfl, hb⟩)
  go_ret
  exact ⟨rfl, hb⟩
end Go.Proofs.Qxb6600863a
