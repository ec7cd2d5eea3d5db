import Derived.Test.Qxb6600577aOnce
import Derived.WalkSpells
namespace Go.Proofs.Qxb6600577a
open Go.ChangeShapes Go.WideShapes Go.ChangeAt Go.RowKit
open Plain (once fed without)

theorem grownBy_trans {a b c : World} {row : Option Nat} (h : a.grownBy b row) (k : b.grownBy c row) : a.grownBy c row :=
  ⟨k.os.trans h.os, k.tape.trans h.tape, k.output.trans h.output, Nat.le_trans h.size k.size, fun i hi hne => (k.block i (Nat.lt_of_lt_of_le hi h.size) hne).trans (h.block i hi hne)⟩

/-- The head of an owned row is owned. -/
theorem ownsRow_take {w : World} {base : Nat} {e : TypeId} {g n cap m : Nat} {xs : List Value} (h : w.ownsRow base e 1 (.slice (some ⟨g, 0, none⟩) n cap) n xs) (hm : m ≤ n) :
    w.ownsRow base e 1 (.slice (some ⟨g, 0, none⟩) m cap) m (xs.take m) := by
  have hl := h.1
  rcases h.2 with ⟨h', _⟩ | ⟨g', cap', cur, h', hb, hg, hnc, hcm, hcs, ht⟩
  · simp at h'
  · simp only [Value.slice.injEq, Option.some.injEq, Addr.mk.injEq, and_true, true_and] at h'
    obtain ⟨rfl, rfl⟩ := h'
    refine ⟨by simp; omega, .inr ⟨g, cap, cur, rfl, hb, hg, by omega, hcm, hcs, ?_⟩⟩
    rw [← ht, List.take_take]
    congr 1; omega

theorem take_put {α : Type} (l : List α) (m n : Nat) (u : α) (hm : m < n) (hn : n ≤ l.length) : (l.take m ++ [u] ++ l.drop (m + 1)).take n = (l.take n).set m u := by
  have : l.take m ++ [u] ++ l.drop (m + 1) = l.set m u := by
    rw [List.set_eq_take_append_cons_drop, if_pos (by omega)]; simp
  rw [this, List.take_set]

/-- 'keep = append(keep, x)' where keep is the head, m long, of a row of the call's own that is n long, m < n: cell m of the row is written. -/
theorem wpList_append_within {P : Program} (w : World) {ops : Array Oper} {rest : List Oper} {o : Oper} {a : Act} {Q : Exit → Act → World → Prop}
    (hg : o.guard = none) (s x : Operand) (t : TypeId) (hop : o.op = Op.call { callee := Callee.builtin Builtin.append, args := #[s, x], argTypes := #[t, t] })
    (base : Nat) (e : TypeId) (i : TypeInfo) (h1 : P.underlying t = some (.slice e)) (h2 : P.info? e = some i) (h4 : i.size = 1)
    (g n m cap : Nat) (xs : List Value) (hs : a.eval s = .slice (some ⟨g, 0, none⟩) m cap) (hown : w.ownsRow base e 1 (.slice (some ⟨g, 0, none⟩) n cap) n xs) (hm : m < n)
    (ad : Addr) (u : Value) (hx : a.eval x = .slice (some ad) 1 1) (hc : ∀ (j : Nat) v, [u][j]? = some v → w.cell? (ad.add j) = some v) (hone : u.oneCell' = true)
    (hK : ∀ w', w'.ownsRow base e 1 (.slice (some ⟨g, 0, none⟩) n cap) n (xs.set m u) → w.grownBy w' (some g) → wpList P ops Q rest (a.put o.dst (.slice (some ⟨g, 0, none⟩) (m + 1) cap)) w') :
    wpList P ops Q (o :: rest) a w := by
  refine wpList_plain hg fun K hK' => ?_
  have hl := hown.1
  rcases hown.2 with ⟨h', _⟩ | ⟨g', cap', cur, h', hb, hgg, hnc, hcm, hcs, ht⟩
  · simp at h'
  · simp only [Value.slice.injEq, Option.some.injEq, Addr.mk.injEq, and_true, true_and] at h'
    obtain ⟨rfl, rfl⟩ := h'
    have hrun := run_append_room (P := P) w t o.type e i h1 h2 g m cap cur hgg ad 1 1 [u] (by simp [h4]) hc (by intro v hv; simp at hv; subst hv; exact hone) (by omega) (by rw [h4]; simp; omega)
    unfold Oper.wp
    simp [execOp, hop, resolve, invoke, builtin, hs, hx, hrun, Result.andThen]
    refine hK' _ _ (hK _ ⟨by simp; omega, .inr ⟨g, cap, _, rfl, hb, setRow_heap w g cur _ e _ hgg, hnc, hcm, ?_, ?_⟩⟩ ⟨rfl, rfl, rfl, by simp, fun k _ hk => setRow_other w g k _ (fun e => hk (by simp [e]))⟩)
    · simp [h4]; omega
    · rw [← ht, h4]
      simp only [Nat.mul_one]
      simpa using take_put cur.toList m n u (by omega) (by simp; omega)

theorem fill_set {α : Type} (l : List α) (d : α) (k : Nat) (hk : k < l.length) : (l.take k ++ List.replicate (l.length - k) d).set k l[k] = l.take (k + 1) ++ List.replicate (l.length - (k + 1)) d := by
  have h1 : (l.take k).length = k := by simp; omega
  rw [List.set_append_right _ _ (by omega), h1, Nat.sub_self]
  obtain ⟨r, hr⟩ : ∃ r, l.length - k = r + 1 := ⟨l.length - k - 1, by omega⟩
  have hr' : l.length - (k + 1) = r := by omega
  rw [hr, hr', List.replicate_succ, List.set_cons_zero, List.take_succ_eq_append_getElem hk, List.append_assoc]
  rfl

set_option maxHeartbeats 400000 in
/-- 'lawB1ToAddrs': a copy in a row of its own. -/
theorem toAddrs13 (a : Option Addr) (len cap : Nat) (ss : List ByteArray) (w : World) (h : Strs w a len ss) (hlen : len ≤ 65536) :
    Calls Try.prog 13 #[.slice a len cap] w fun e w' => RowEnd w.heap.size 28 w none ss e w' := by
  have q22 : ∀ (w : World) (a : Option Addr) (n c n' c' : Nat), (binOp .eql 22 (.slice a n c) (.slice none n' c')).run Try.prog w = .ok (.bool a.isNone) w := fun w a n c n' c' => Lib.run_eql_slice_nil w _ _ a n c n' c' Try.underlying22
  cases a with
  | none =>
    have h0 : ss = [] := by
      rcases Nat.eq_zero_or_pos len with h0 | h0
      · exact List.eq_nil_of_length_eq_zero (by rw [h.length]; exact h0)
      · obtain ⟨_, _, hh, _⟩ := h.cells h0; simp at hh
    subst h0
    go_enter Try.func13, Try.ntmps13
    go_wp2
    go_ret
    exact ⟨_, rfl, World.ownsRow_nil _ _ _ _, World.grownBy.refl _ _⟩
  | some x =>
    obtain ⟨i0, hi, hz0, hz1, hz2⟩ := info_parts Try.info28
    have HL : Hid (ss.length = len) := h.length
    go_enter Try.func13, Try.ntmps13
    go_wp2_with (at_make; refine wpList_make_full _ rfl _ _ 25 rfl w.heap.size 28 i0 (.string ByteArray.empty) 1 Try.underlying25 hi hz0 hz1 _ _ _ _ len rfl rfl rfl rfl ?b2 ?b3 ?b4 ?_)
    case b2 => rw [hz2]; omega
    case b3 => unfold maxLen; omega
    case b4 => exact Nat.le_refl _
    intro w1 hown hgrow
    have hown1 : w1.ownsRow w.heap.size 28 1 (.slice (some ⟨w.heap.size, 0, none⟩) len len) len (strV (ss.take 0 ++ List.replicate (len - 0) ByteArray.empty)) := by
      have e1 : (madeCells #[Value.string ByteArray.empty] len).toList = strV (ss.take 0 ++ List.replicate (len - 0) ByteArray.empty) := by
        rw [toList_madeCells_one]; simp [strV]
      rw [← e1]; exact hown
    have hbel : Below w.heap.size w w1 := (Below.refl _ _).grown hgrow (Nat.le_refl _) (fun k hk => by cases hk)
    clear hown hgrow
    go_wp2
    go_loopw [4] (fun i wr => ∃ k : Nat, k ≤ len ∧ i = .int .i64 k ∧ wr.ownsRow w.heap.size 28 1 (.slice (some ⟨w.heap.size, 0, none⟩) len len) len (strV (ss.take k ++ List.replicate (len - k) ByteArray.empty)) ∧ Below w.heap.size w wr) (fun i _ => len - (intOf i).toNat)
    case atStart => exact ⟨0, by omega, rfl, hown1, hbel⟩
    case round =>
      obtain ⟨k, hk, rfl, hown, hbel'⟩ := hrel
      by_cases hlt : k < len
      · obtain ⟨b, off, hx, hb, hc⟩ := h.cells (by omega)
        cases hx
        have hck := (hbel'.cell (p := ⟨b, off + k, none⟩) hb).trans (hc k hlt)
        have hst := hown.stored k (.string (ss.getD k ByteArray.empty))
        have hfz := hown.frozenAt k
        have hcl : wr.cell? ⟨w.heap.size, k, none⟩ = some (.string ((ss.take k ++ List.replicate (len - k) ByteArray.empty).getD k ByteArray.empty)) := by
          rw [hown.cellAt k (by omega)]
          exact strV_get _ _ (by have := HL.out; simp; omega)
        obtain ⟨s, hs⟩ : ∃ s, s = ss.getD k ByteArray.empty := ⟨_, rfl⟩
        rw [← hs] at hck hst
        have hown2 : (wr.setCell ⟨w.heap.size, k, none⟩ (.string s)).ownsRow w.heap.size 28 1 (.slice (some ⟨w.heap.size, 0, none⟩) len len) len (strV (ss.take (k + 1) ++ List.replicate (len - (k + 1)) ByteArray.empty)) := by
          have hl := HL.out
          have hk' : k < ss.length := by omega
          have e2 : (strV (ss.take k ++ List.replicate (len - k) ByteArray.empty)).set k (.string s) = strV (ss.take (k + 1) ++ List.replicate (len - (k + 1)) ByteArray.empty) := by
            have e3 : s = ss[k] := by rw [hs]; simp [hk']
            rw [e3]
            unfold strV
            rw [← List.map_set, ← hl, fill_set ss ByteArray.empty k hk']
          rw [← e2]; exact hst.1
        have hbel2 : Below w.heap.size w (wr.setCell ⟨w.heap.size, k, none⟩ (.string s)) := hbel'.setCell (Nat.le_refl _) _
        clear hs hst hc h hown hbel hown1 hbel'
        go_wp2
        go_roundw
        case rel => exact ⟨k + 1, by omega, by go_num, hown2, hbel2⟩
        case measure => simp [intOf]; omega
      · obtain rfl : len = k := by omega
        clear hown1 hbel hlt hk
        go_wp2
        go_ret
        refine ⟨_, rfl, ?_, ⟨hbel'.os, hbel'.tape, hbel'.output, hbel'.size, fun k hk _ => hbel'.block k hk⟩⟩
        have hl := HL.out
        rw [Nat.sub_self] at hown
        simp only [List.replicate_zero, List.append_nil] at hown
        rw [List.take_of_length_le (by omega)] at hown
        rw [hl]; exact hown
end Go.Proofs.Qxb6600577a
