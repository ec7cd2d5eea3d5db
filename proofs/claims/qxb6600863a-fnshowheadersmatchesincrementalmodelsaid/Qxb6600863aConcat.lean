import Derived.Test.Qxb6600863aBase
namespace Go.Proofs.Qxb6600863a
open Go.ChangeShapes Go.WideShapes Go.ChangeAt Go.RowKit

/-- 'append(out, xs...)' on strings: out the call's own, xs whatever slice of strings. -/
theorem wpList_append_strs {w : World} {ops : Array Oper} {rest : List Oper} {o : Oper} {a : Act} {Q : Exit → Act → World → Prop} (hgd : o.guard = none) (s x : Operand)
    (ho : o.op = .call { callee := .builtin .append, args := #[s, x], argTypes := #[22, 22] }) (base : Nat) (v : Value) (n : Nat) (xs : List ByteArray) (hs : a.eval s = v) (hown : w.ownsRow base 9 1 v n (strV xs))
    (ao : Option Addr) (m c : Nat) (ys : List ByteArray) (hx : a.eval x = .slice ao m c) (hst : Strs w ao m ys) (hnil : ao = none → c = 0) (hbd : n + m ≤ 1048576) (hbase : base ≤ w.heap.size)
    (h : ∀ v' w', w'.ownsRow base 9 1 v' (n + m) (strV (xs ++ ys)) → w.grownBy w' v.ownBlock → wpList Try.prog ops Q rest (a.put o.dst v') w') : wpList Try.prog ops Q (o :: rest) a w := by
  obtain ⟨i0, hi, hz0, hz1, hz2⟩ := info_parts Try.info9
  have hl := hst.length
  cases ao with
  | none =>
    have hm : m = 0 := by
      rcases Nat.eq_zero_or_pos m with h0 | h0
      · exact h0
      · obtain ⟨_, _, hh, _⟩ := hst.cells h0; simp at hh
    obtain rfl := hnil rfl
    subst hm
    obtain rfl : ys = [] := List.eq_nil_of_length_eq_zero hl
    refine wpList_append_own_none hgd s x 22 ho base 9 i0 1 Try.underlying22 hi v n _ hs hown hx ?_
    exact h v w (by simpa using hown) (World.grownBy.refl _ _)
  | some ad =>
    refine wpList_append_own w hgd s x 22 ho base 9 i0 (.string ByteArray.empty) 1 16 Try.underlying22 hi hz0 hz1 hz2 rfl (by decide) v n _ hs hown ad m c (strV ys) hx (by simp [strV, hl]) ?_ (strV_one ys) (by unfold maxLen; omega) (by omega) hbase ?_
    · intro j u hj
      have hjl : j < ys.length := by have := (List.getElem?_eq_some_iff.1 hj).1; simpa [strV] using this
      obtain ⟨b, off, he, _, hc⟩ := hst.cells (by omega)
      cases he
      rw [Addr.add_lit, hc j (by omega), ← hj, strV_get ys j hjl]
    · intro v' w' h1 h2 _
      exact h v' w' (by simpa [strV] using h1) h2

set_option maxRecDepth 20000 in
set_option maxHeartbeats 1000000 in
/-- 'slices.Grow' at nil. -/
theorem growNil19 (n : Nat) (hn : n ≤ 1048576) (w : World) :
    Calls Try.prog 19 #[.slice none 0 0, .int .i64 n] w fun e w' => RowEnd w.heap.size 9 w none [] e w' := by
  by_cases h0 : n = 0
  · subst h0
    go_enter Try.func19, Try.ntmps19
    go_wp2
    go_ret
    exact ⟨_, rfl, World.ownsRow_nil _ _ _ _, World.grownBy.refl _ _⟩
  obtain ⟨i0, hi, hz0, hz1, hz2⟩ := info_parts Try.info9
  have hr := Lib.run_append_grow_zeros (P := Try.prog) w 22 3 22 9 i0 (.string ByteArray.empty) .i64 .i64 Try.underlying22 Try.underlying3 hi hz0 none 0 0 [] (run_firstCells_none w.drew i0.size 0 0 0) n (by omega) (by rw [hz1]; decide) (by omega) (by omega)
    (by rw [hz2]; omega) (growslice_fits (by omega) (by rw [hz2]; omega))
  simp only [Nat.zero_add] at hr
  have hGn : n ≤ grownCap w n 0 9 := grownCap_ge w _ _ _
  have hG63 : grownCap w n 0 9 ≤ maxLen := grownCap_le_maxLen w n 0 9 (by unfold maxLen; omega)
  have hcs : ((List.nil : List Value).toArray ++ Builtin.zeroCells (Value.string ByteArray.empty).cells n ++ Builtin.zeroCells (Value.string ByteArray.empty).cells (grownCap w n 0 9 - n)).size = grownCap w n 0 9 * 1 := by
    simp only [Array.size_append, size_zeroCells]
    have : (Value.string ByteArray.empty).cells.size = 1 := rfl
    rw [this]
    simp
    omega
  obtain ⟨G, hG⟩ : ∃ G, G = grownCap w n 0 9 := ⟨_, rfl⟩
  obtain ⟨O, hO⟩ : ∃ O, O = ((List.nil : List Value).toArray ++ Builtin.zeroCells (Value.string ByteArray.empty).cells n ++ Builtin.zeroCells (Value.string ByteArray.empty).cells (grownCap w n 0 9 - n)) := ⟨_, rfl⟩
  rw [← hO] at hr hcs
  rw [← hG] at hr hcs hGn hG63
  have hown : (w.drew.alloc (.cells O 9)).ownsRow w.heap.size 9 1 (.slice (some ⟨w.heap.size, 0, none⟩) 0 G) 0 [] := World.ownsRow_made w.drew O G (Nat.le_refl _) hG63 hcs
  have hgr : w.grownBy (w.drew.alloc (.cells O 9)) none := ⟨rfl, rfl, rfl, by simp, fun k hk _ => Below.heap_alloc w.drew _ k hk⟩
  have HE : Hid (RowEnd w.heap.size 9 w none [] (.returned (.slice (some ⟨w.heap.size, 0, none⟩) 0 G)) (w.drew.alloc (.cells O 9))) := ⟨_, rfl, hown, hgr⟩
  have hn0 : (0 : Int) < (n : Int) := by omega
  unfold maxLen at hG63
  clear hG hO hcs hown hgr hi hz0 hz1 hz2 h0
  go_enter Try.func19, Try.ntmps19
  go_wp2_with (at_builtin; refine Lib.wpList_append_run _ rfl _ _ _ _ rfl _ _ rfl rfl _ _ hr ?_)
  all_goals (go_ret; exact HE.out)

/-- A row of the call's own, opened: its value's shape, its strings, what stands. -/
theorem RowEnd.open {base : Nat} {t : TypeId} {w w' : World} {row : Option Nat} {xs : List ByteArray} {e : Ending} (h : RowEnd base t w row xs e w') :
    ∃ ao cap, e = .returned (.slice ao xs.length cap) ∧ w'.ownsRow base t 1 (.slice ao xs.length cap) xs.length (strV xs) ∧ Strs w' ao xs.length xs ∧ (ao = none → cap = 0) ∧ w.grownBy w' row := by
  obtain ⟨v, rfl, ho, hg⟩ := h
  obtain ⟨ao, cap, rfl, hs⟩ := owned_strs ho
  refine ⟨ao, cap, rfl, ho, hs, fun hn => ?_, hg⟩
  rcases ho.2 with ⟨hv, _⟩ | ⟨g, c, cur, hv, _⟩
  · simp only [Value.slice.injEq] at hv; exact hv.2.2
  · subst hn; simp at hv

set_option maxRecDepth 20000 in
set_option maxHeartbeats 1000000 in
/-- 'slices.Concat' of two slices of strings. -/
theorem concat15 (cb : Nat) (a : Option Addr) (n c : Nat) (xs : List ByteArray) (a' : Option Addr) (m c' : Nat) (ys : List ByteArray) (w : World) (hcb : cb < w.heap.size)
    (h0 : w.cell? ⟨cb, 0, none⟩ = some (.slice a n c)) (h1 : w.cell? ⟨cb, 1, none⟩ = some (.slice a' m c')) (hx : Strs w a n xs) (hy : Strs w a' m ys) (hn : a = none → c = 0) (hn' : a' = none → c' = 0) (hbd : n + m ≤ 65536) :
    Calls Try.prog 15 #[.slice (some ⟨cb, 0, none⟩) 2 2] w fun e w' => RowEnd w.heap.size 9 w none (xs ++ ys) e w' := by
  have hxl : Hid (xs.length = n) := hx.length
  have hyl : Hid (ys.length = m) := hy.length
  go_enter Try.func15, Try.ntmps15
  go_wp2
  go_loop [3, 11] (fun z i => (i = .int .i64 0 ∧ z = .int .i64 0) ∨ (i = .int .i64 1 ∧ z = .int .i64 n) ∨ (i = .int .i64 2 ∧ z = .int .i64 ((n : Int) + (m : Int)))) (fun _ i => 2 - (intOf i).toNat)
  case atStart => exact .inl ⟨rfl, rfl⟩
  case round =>
    rcases hrel with ⟨rfl, rfl⟩ | ⟨rfl, rfl⟩ | ⟨rfl, rfl⟩
    · go_wp2
      go_round
      case rel => exact .inr (.inl ⟨rfl, by go_num⟩)
      case measure => simp [intOf]
    · go_wp2
      go_round
      case rel => exact .inr (.inr ⟨rfl, by go_num⟩)
      case measure => simp [intOf]
    · go_wp2_with fail
      rw [show (n : Int) + (m : Int) = ((n + m : Nat) : Int) by omega]
      refine (growNil19 (n + m) (by omega) w).mono ?_
      intro e w1 hr
      obtain ⟨ao1, c1, rfl, ho1, _, _, hg1⟩ := hr.open
      have hb1 : Below w.heap.size w w1 := (Below.refl _ _).grown hg1 (Nat.le_refl _) (fun k hk => by cases hk)
      simp only [List.length_nil] at ho1 ⊢
      clear hr hg1
      go_wp2
      go_loopw [6, 27] (fun v i wr => ∃ (k : Nat) (zs : List ByteArray), i = .int .i64 k ∧ k ≤ 2 ∧ Hid (zs = if k = 0 then [] else if k = 1 then xs else xs ++ ys) ∧ wr.ownsRow w.heap.size 9 1 v zs.length (strV zs) ∧ Below w.heap.size w wr) (fun _ i _ => 2 - (intOf i).toNat)
      case atStart => exact ⟨0, [], rfl, by omega, rfl, ho1, hb1⟩
      case round =>
        clear ho1 hb1
        obtain ⟨k, zs, rfl, hk, HZ, hown, hbel⟩ := hrel
        have hsz := hbel.size
        obtain ⟨av, cv, rfl, _⟩ := owned_strs hown
        have e0 := (hbel.cell (p := ⟨cb, 0, none⟩) hcb).trans h0
        have e1 := (hbel.cell (p := ⟨cb, 1, none⟩) hcb).trans h1
        match k, hk with
        | 0, _ =>
          have hzl : zs.length = 0 := by rw [HZ.out]; rfl
          obtain rfl : zs = [] := List.eq_nil_of_length_eq_zero hzl
          have hxw := hx.later hbel
          clear h0 h1 HZ hzl
          go_wp2_with (at_builtin; refine wpList_append_strs rfl (.tmp 31) (.tmp 32) rfl w.heap.size _ 0 [] rfl hown a n c xs rfl hxw hn ?c1 hsz ?_)
          case c1 => omega
          intro v' w2 ho2 hg2
          have hb2 : Below w.heap.size w w2 := hbel.grown hg2 hsz (fun x hx => (hown.lt x hx).1)
          clear hown hg2
          go_wp2
          go_roundw
          case rel =>
            (repeat apply Exists.intro)
            exact ⟨⟨1, xs, rfl, by omega, rfl, by rw [hxl.out]; simpa using ho2, hb2⟩, rfl⟩
          case measure => simp [intOf]
        | 1, _ =>
          have hzx : zs = xs := HZ.out
          subst hzx
          have hyw := hy.later hbel
          rw [hxl.out] at hown ⊢
          clear h0 h1 HZ
          go_wp2_with (at_builtin; refine wpList_append_strs rfl (.tmp 31) (.tmp 32) rfl w.heap.size _ n zs rfl hown a' m c' ys rfl hyw hn' ?c1 hsz ?_)
          case c1 => omega
          intro v' w2 ho2 hg2
          have hb2 : Below w.heap.size w w2 := hbel.grown hg2 hsz (fun x hx => (hown.lt x hx).1)
          clear hown hg2
          go_wp2
          go_roundw
          case rel =>
            (repeat apply Exists.intro)
            exact ⟨⟨2, zs ++ ys, rfl, by omega, rfl, by rw [List.length_append, hxl.out, hyl.out]; exact ho2, hb2⟩, rfl⟩
          case measure => simp [intOf]
        | 2, _ =>
          have hzx : zs = xs ++ ys := HZ.out
          have HZX : Hid (zs = xs ++ ys) := hzx
          clear hzx HZ h0 h1
          go_wp2
          go_ret
          refine ⟨_, rfl, ?_, ⟨hbel.os, hbel.tape, hbel.output, hbel.size, fun k hk _ => hbel.block k hk⟩⟩
          rw [← HZX.out]; exact hown
end Go.Proofs.Qxb6600863a
