import Derived.Test.Qxb6600863aLaw4
import Derived.Laws.IdiomStrings
import Derived.Laws.BytesArg
import Derived.PlainAid
namespace Go.Proofs.Qxb6600863a
open Go.ChangeShapes Go.WideShapes Go.ChangeAt Go.RowKit Go.Sort Go.PlainAid
open Plain (dat jn alt showL)

/-- A row of bytes: its cells. -/
def bytV (l : List UInt8) : List Value := l.map fun b => .int .u8 (b.toNat : Int)
theorem bytV_len (l : List UInt8) : (bytV l).length = l.length := by simp [bytV]
theorem bytV_get (l : List UInt8) (i : Nat) (h : i < l.length) : (bytV l)[i]? = some (.int .u8 (l[i].toNat : Int)) := by simp [bytV, h]
theorem bytV_snoc (l : List UInt8) (b : UInt8) : bytV (l ++ [b]) = bytV l ++ [.int .u8 (b.toNat : Int)] := by simp [bytV]

/-- Where the longer row lies: where it lay, or in a new block. -/
def Whence (w : World) (v v' : Value) : Prop := v'.ownBlock = v.ownBlock ∨ ∃ g, v'.ownBlock = some g ∧ w.heap.size ≤ g
theorem Whence.refl (w : World) (v : Value) : Whence w v v := .inl rfl
theorem Whence.trans {w w' : World} {v v' v'' : Value} (h : Whence w v v') (h' : Whence w' v' v'') (hs : w.heap.size ≤ w'.heap.size) : Whence w v v'' := by
  rcases h' with h' | ⟨g, h1, h2⟩
  · rcases h with h | ⟨g, h1, h2⟩
    · exact .inl (h'.trans h)
    · exact .inr ⟨g, h'.trans h1, h2⟩
  · exact .inr ⟨g, h1, by omega⟩
theorem Whence.alloc {w : World} {o : Obj} {v v' : Value} (h : Whence (w.alloc o) v v') : Whence w v v' := by
  rcases h with h | ⟨g, h1, h2⟩
  · exact .inl h
  · exact .inr ⟨g, h1, by simp at h2; omega⟩
theorem grownBy_whence {w w1 w2 : World} {v v' : Value} (h : w.grownBy w1 v.ownBlock) (hw : Whence w v v') (h' : w1.grownBy w2 v'.ownBlock) : w.grownBy w2 v.ownBlock := by
  refine ⟨h'.os.trans h.os, h'.tape.trans h.tape, h'.output.trans h.output, Nat.le_trans h.size h'.size, fun k hk hne => ?_⟩
  refine (h'.block k (Nat.lt_of_lt_of_le hk h.size) ?_).trans (h.block k hk hne)
  rcases hw with hw | ⟨g, h1, h2⟩
  · rw [hw]; exact hne
  · rw [h1]; intro he; cases he; omega

/-- One byte more, and where the longer row lies. -/
theorem run_append_byte (ty : TypeId) (w : World) (base : Nat) (v : Value) (l : List UInt8) (hown : w.ownsRow base 5 1 v l.length (bytV l)) (ad : Addr) (c : Nat) (b : UInt8)
    (hc : ∀ (j : Nat) u, [Value.int .u8 (b.toNat : Int)][j]? = some u → w.cell? (ad.add j) = some u) (hbd : l.length + 1 ≤ 20000000) (hbase : base ≤ w.heap.size) :
    ∃ v' w', (Builtin.append_ #[27, 27] ty #[v, .slice (some ad) 1 c]).run Try.prog w = .ok v' w' ∧ w'.ownsRow base 5 1 v' (l ++ [b]).length (bytV (l ++ [b])) ∧ w.grownBy w' v.ownBlock ∧ Whence w v v' := by
  obtain ⟨i0, hi, hz0, hz1, hz2⟩ := info_parts Try.info5
  have hone : ∀ u ∈ [Value.int .u8 (b.toNat : Int)], u.oneCell' = true := by intro u hu; simp at hu; subst hu; rfl
  obtain ⟨v', w', hr, ho, hg, _⟩ := run_append_own (P := Try.prog) w base 27 ty 5 i0 (.int .u8 0) 1 1 Try.underlying27 hi hz0 hz1 hz2 rfl (by decide) v l.length (bytV l) hown ad 1 c [.int .u8 (b.toNat : Int)] rfl hc hone (by unfold maxLen; omega) (by omega) hbase
  refine ⟨v', w', hr, by rw [bytV_snoc, List.length_append]; exact ho, hg, ?_⟩
  rcases hown.2 with ⟨rfl, hn⟩ | ⟨g, cap, cur, rfl, hbg, hgg, hnc, hcm, hcs, htake⟩
  · have hr' := run_append_nil (P := Try.prog) w 27 ty 5 i0 (.int .u8 0) Try.underlying27 hi hz0 ad 1 c [.int .u8 (b.toNat : Int)] (by rw [hz1]; rfl) hc (by omega) (by omega) (by rw [hz2]; omega)
    rw [hr] at hr'
    cases hr'
    exact .inr ⟨_, rfl, Nat.le_refl _⟩
  · by_cases hroom : l.length + 1 ≤ cap
    · have hr' := run_append_room (P := Try.prog) w 27 ty 5 i0 Try.underlying27 hi g l.length cap cur hgg ad 1 c [.int .u8 (b.toNat : Int)] (by rw [hz1]; rfl) hc hone hroom (by rw [hz1]; simp; omega)
      rw [hr] at hr'
      cases hr'
      exact .inl rfl
    · have hr' := run_append_grow (P := Try.prog) w 27 ty 5 i0 (.int .u8 0) Try.underlying27 hi hz0 ⟨g, 0, none⟩ l.length cap (bytV l) (by rw [hz1]; exact hown.1) (hown.cells (g := g) rfl) ad 1 c [.int .u8 (b.toNat : Int)] (by rw [hz1]; rfl) hc (by omega) (by omega) (growslice_fits (by omega) (by rw [hz2]; omega))
      rw [hr] at hr'
      cases hr'
      exact .inr ⟨_, rfl, Nat.le_refl _⟩

/-- A row of bytes of the call's own. -/
def BRow (base : Nat) (w : World) (v : Value) (l : List UInt8) : Prop := w.ownsRow base 5 1 v l.length (bytV l)
theorem BRow.alloc {base : Nat} {w : World} {v : Value} {l : List UInt8} (h : BRow base w v l) (o : Obj) : BRow base (w.alloc o) v l := World.ownsRow.alloc h o
theorem BRow.kept {base : Nat} {w w' : World} {row : Option Nat} {v : Value} {l : List UInt8} (h : BRow base w v l) (hg : w.grownBy w' row) (hne : v.ownBlock = none ∨ v.ownBlock ≠ row) : BRow base w' v l := World.ownsRow.kept h hg hne
theorem BRow.nil (base : Nat) (w : World) : BRow base w (.slice none 0 0) [] := World.ownsRow_nil _ _ _ _

theorem wpList_append_byte {w : World} {ops : Array Oper} {rest : List Oper} {o : Oper} {a : Act} {Q : Exit → Act → World → Prop} (hgd : o.guard = none) (s x : Operand)
    (ho : o.op = .call { callee := .builtin .append, args := #[s, x], argTypes := #[27, 27] }) (base : Nat) (v : Value) (l l' : List UInt8) (hs : a.eval s = v) (hown : BRow base w v l)
    (ad : Addr) (c : Nat) (b : UInt8) (hx : a.eval x = .slice (some ad) 1 c) (hc : ∀ (j : Nat) u, [Value.int .u8 (b.toNat : Int)][j]? = some u → w.cell? (ad.add j) = some u) (hl' : Hid (l' = l ++ [b])) (hbd : l'.length ≤ 20000000) (hbase : base ≤ w.heap.size)
    (h : ∀ v' w', BRow base w' v' l' → w.grownBy w' v.ownBlock → Whence w v v' → wpList Try.prog ops Q rest (a.put o.dst v') w') : wpList Try.prog ops Q (o :: rest) a w := by
  obtain rfl := hl'.out
  refine wpList_plain hgd fun K hK => ?_
  obtain ⟨v', w', hr, h2, h3, h4⟩ := run_append_byte o.type w base v l hown ad c b hc (by simpa using hbd) hbase
  unfold Oper.wp execOp
  simp only [ho, resolve, invoke, builtin, Sem.run_bind, Sem.run_pure, Result.andThen_ok, List.map_toArray, List.map_cons, List.map_nil, hs, hx, hr]
  exact hK _ _ (h v' w' h2 h3 h4)

/-- The shape of an owned row of bytes. -/
theorem owned_bytes {w : World} {base : Nat} {v : Value} {l : List UInt8} (h : BRow base w v l) :
    ∃ ao cap, v = .slice ao l.length cap ∧ l.length ≤ cap ∧ (ao = none → l = []) ∧ ∀ g, ao = some g → ∃ gb, g = ⟨gb, 0, none⟩ ∧ gb < w.heap.size ∧ ∀ i (hi : i < l.length), w.cell? ⟨gb, i, none⟩ = some (.int .u8 (l[i].toNat : Int)) := by
  rcases h.2 with ⟨rfl, hn⟩ | ⟨g, cap, cur, rfl, hb, hg, hnc, _⟩
  · exact ⟨none, 0, by rw [hn], by omega, fun _ => List.eq_nil_of_length_eq_zero hn, fun g h => by cases h⟩
  · refine ⟨_, cap, rfl, hnc, (fun h => nomatch h), fun g' h' => ?_⟩
    cases h'
    refine ⟨g, rfl, (Array.getElem?_eq_some_iff.1 hg).1, fun i hi => ?_⟩
    rw [World.ownsRow.cellAt h i (by omega)]
    exact bytV_get l i hi

/-- What a call that lengthens a row of bytes has done. -/
def ByteEnd (base : Nat) (w : World) (v : Value) (l : List UInt8) (e : Ending) (w' : World) : Prop :=
  ∃ v', e = .returned v' ∧ BRow base w' v' l ∧ w.grownBy w' v.ownBlock ∧ Whence w v v'

theorem take_snoc (s : List UInt8) (k : Nat) (h : k < s.length) (l : List UInt8) : l ++ s.take (k + 1) = l ++ s.take k ++ [s[k]] := by
  rw [List.take_succ_eq_append_getElem h, List.append_assoc]

set_option maxRecDepth 20000 in
set_option maxHeartbeats 1000000 in
theorem appendString12 (base : Nat) (v0 : Value) (l : List UInt8) (s : ByteArray) (w : World) (hown0 : BRow base w v0 l) (hbase : base ≤ w.heap.size) (hbd : l.length + s.size ≤ 19000000) :
    Calls Try.prog 12 #[v0, .string s] w fun e w' => ByteEnd base w v0 (l ++ s.data.toList) e w' := by
  have hb := get_bt s
  go_enter Try.func12, Try.ntmps12
  go_wp2
  go_loopw [0, 5] (fun v i wr => ∃ (k : Nat) (z : List UInt8), k ≤ s.size ∧ i = .int .i64 k ∧ Hid (z = l ++ s.data.toList.take k) ∧ BRow base wr v z ∧ w.grownBy wr v0.ownBlock ∧ Whence w v0 v) (fun _ i _ => s.size - (intOf i).toNat)
  case atStart => exact ⟨0, l, by omega, rfl, by simp [Hid], hown0, World.grownBy.refl _ _, Whence.refl _ _⟩
  case round =>
    obtain ⟨k, z, hk, rfl, HZ, hown, hgr, hwh⟩ := hrel
    have hsz := hgr.size
    by_cases hlt : k < s.size
    · have hbi := hb k hlt
      have hkl : k < s.data.toList.length := by simpa using hlt
      have hcl : ∀ (j : Nat) u, [Value.int .u8 (s.data.toList[k].toNat : Int)][j]? = some u → (wr.alloc (.cells #[.int .u8 (bt s k)] 5)).cell? ((⟨wr.heap.size, 0, none⟩ : Addr).add j) = some u := by
        rw [← hbi]; exact cell_new1 wr _ 5
      obtain ⟨z', hz'⟩ : ∃ z', z' = l ++ s.data.toList.take (k + 1) := ⟨_, rfl⟩
      have HZ' : Hid (z' = l ++ s.data.toList.take (k + 1)) := hz'
      have hle : z'.length ≤ 20000000 := by rw [hz']; simp; omega
      have HSN : Hid (z' = z ++ [s.data.toList[k]]) := by unfold Hid; rw [hz', HZ.out]; exact take_snoc _ k hkl l
      obtain ⟨B, hB⟩ : ∃ B, B = s.data.toList[k] := ⟨_, rfl⟩
      rw [← hB] at hcl HSN
      clear hB hbi hz'
      go_wp2_with (at_builtin; refine wpList_append_byte rfl (.tmp 12) (.tmp 16) rfl base _ _ z' rfl (hown.alloc _) _ 1 B rfl hcl HSN hle ?c1 ?_)
      case c1 => simp; omega
      intro v' w1 ho1 hg1 hw1
      have hg2 := grownBy_whence hgr hwh (grownBy_alloc_then hg1)
      have hw2 := hwh.trans hw1.alloc hsz
      clear hown hgr hwh hg1 hw1 HSN hcl HZ
      go_wp2
      go_roundw
      case rel => exact ⟨k + 1, z', by omega, by go_num, HZ', ho1, hg2, hw2⟩
      case measure => simp [intOf]; omega
    · obtain rfl : k = s.size := by omega
      have HE : Hid (z = l ++ s.data.toList) := by unfold Hid; rw [HZ.out, List.take_of_length_le (by simp)]
      clear hlt hk
      go_wp2
      go_ret
      rw [← HE.out]
      exact ⟨_, rfl, hown, hgr, hwh⟩

set_option maxRecDepth 20000 in
set_option maxHeartbeats 1000000 in
theorem appendBytes13 (base : Nat) (v0 : Value) (l : List UInt8) (x : Value) (s : List UInt8) (w : World) (hown0 : BRow base w v0 l) (hsrc0 : BRow base w x s) (hap : x.ownBlock = none ∨ x.ownBlock ≠ v0.ownBlock) (hbase : base ≤ w.heap.size) (hbd : l.length + s.length ≤ 19000000) :
    Calls Try.prog 13 #[v0, x] w fun e w' => ByteEnd base w v0 (l ++ s) e w' := by
  obtain ⟨ao, cap, rfl, hcap, hnil, hcells0⟩ := owned_bytes hsrc0
  go_enter Try.func13, Try.ntmps13
  go_wp2
  go_loopw [0, 5] (fun v i wr => ∃ (k : Nat) (z : List UInt8), k ≤ s.length ∧ i = .int .i64 k ∧ Hid (z = l ++ s.take k) ∧ BRow base wr v z ∧ w.grownBy wr v0.ownBlock ∧ Whence w v0 v) (fun _ i _ => s.length - (intOf i).toNat)
  case atStart => exact ⟨0, l, by omega, rfl, by simp [Hid], hown0, World.grownBy.refl _ _, Whence.refl _ _⟩
  case round =>
    obtain ⟨k, z, hk, rfl, HZ, hown, hgr, hwh⟩ := hrel
    have hsz := hgr.size
    by_cases hlt : k < s.length
    · have hsrc := hsrc0.kept hgr hap
      obtain ⟨g, rfl⟩ : ∃ g, ao = some g := by
        cases ao with
        | none => rw [hnil rfl] at hlt; simp at hlt
        | some g => exact ⟨g, rfl⟩
      obtain ⟨gb, rfl, hgb, hcc⟩ := hcells0 g rfl
      have hck : wr.cell? ⟨gb, k, none⟩ = some (.int .u8 (s[k].toNat : Int)) := by
        rw [World.cell?_of_block (a := ⟨gb, k, none⟩) (hgr.block gb hgb (by
          rcases hap with h | h
          · simp [Value.ownBlock] at h
          · exact h))]
        exact hcc k hlt
      have hcl : ∀ (j : Nat) u, [Value.int .u8 (s[k].toNat : Int)][j]? = some u → (wr.alloc (.cells #[.int .u8 (s[k].toNat : Int)] 5)).cell? ((⟨wr.heap.size, 0, none⟩ : Addr).add j) = some u := cell_new1 wr _ 5
      obtain ⟨z', hz'⟩ : ∃ z', z' = l ++ s.take (k + 1) := ⟨_, rfl⟩
      have HZ' : Hid (z' = l ++ s.take (k + 1)) := hz'
      have hle : z'.length ≤ 20000000 := by rw [hz']; simp; omega
      have HSN : Hid (z' = z ++ [s[k]]) := by unfold Hid; rw [hz', HZ.out]; exact take_snoc _ k hlt l
      obtain ⟨B, hB⟩ : ∃ B, B = s[k] := ⟨_, rfl⟩
      rw [← hB] at hcl HSN hck
      have hki : (k : Int) < (s.length : Int) := by omega
      clear hB hz' hcells0 hcc hnil hsrc hsrc0 hown0
      go_wp2_with (at_builtin; refine wpList_append_byte rfl (.tmp 12) (.tmp 17) rfl base _ _ z' rfl (hown.alloc _) _ 1 B rfl hcl HSN hle ?c1 ?_)
      case c1 => simp; omega
      intro v' w1 ho1 hg1 hw1
      have hg2 := grownBy_whence hgr hwh (grownBy_alloc_then hg1)
      have hw2 := hwh.trans hw1.alloc hsz
      clear hown hgr hwh hg1 hw1 HSN hcl HZ
      go_wp2
      go_roundw
      case rel => exact ⟨k + 1, z', by omega, by go_num, HZ', ho1, hg2, hw2⟩
      case measure => simp [intOf]; omega
    · obtain rfl : k = s.length := by omega
      have HE : Hid (z = l ++ s) := by unfold Hid; rw [HZ.out, List.take_of_length_le (by simp)]
      clear hlt hk
      go_wp2
      go_ret
      rw [← HE.out]
      exact ⟨_, rfl, hown, hgr, hwh⟩
end Go.Proofs.Qxb6600863a
