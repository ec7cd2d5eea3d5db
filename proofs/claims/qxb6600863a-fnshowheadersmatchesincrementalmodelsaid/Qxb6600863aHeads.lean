import Derived.Test.Qxb6600863aModel
namespace Go.Proofs.Qxb6600863a
open Go.ChangeShapes Go.WideShapes Go.ChangeAt Go.RowKit Go.Sort Go.PlainAid
open Plain (dat jn alt showL)

/-- Two rows in two blocks. -/
def Apart (v x : Value) : Prop := ∀ g, v.ownBlock = some g → x.ownBlock = some g → False
theorem Apart.symm {v x : Value} (h : Apart v x) : Apart x v := fun g h1 h2 => h g h2 h1
theorem Apart.ne {v x : Value} (h : Apart v x) : x.ownBlock = none ∨ x.ownBlock ≠ v.ownBlock := by
  cases hx : x.ownBlock with
  | none => exact .inl rfl
  | some g => exact .inr fun he => h g he.symm hx
theorem BRow.lt {base : Nat} {w : World} {v : Value} {l : List UInt8} (h : BRow base w v l) : ∀ k, v.ownBlock = some k → base ≤ k ∧ k < w.heap.size := World.ownsRow.lt h
theorem Apart.moved {base : Nat} {w : World} {v v' x : Value} {l : List UInt8} (h : Apart v x) (hw : Whence w v v') (hx : BRow base w x l) : Apart v' x := by
  intro g h1 h2
  rcases hw with hw | ⟨g', h3, h4⟩
  · exact h g (hw ▸ h1) h2
  · have := (hx.lt g h2).2
    rw [h3] at h1; cases h1; omega
theorem BRow.below {base : Nat} {w0 w w' : World} {v : Value} {l : List UInt8} (h : BRow base w v l) (hb : Below base w0 w) (hg : w.grownBy w' v.ownBlock) (hs : base ≤ w.heap.size) : Below base w0 w' :=
  hb.grown hg hs (fun x hx => (h.lt x hx).1)

theorem jn_shown (hs os : List ByteArray) : (jn hs).length ≤ (showL hs os).length := by
  cases os with
  | nil => rw [Plain.showL_nil]; exact Nat.le_refl _
  | cons o os => rw [Plain.showL_cons]; simp only [List.length_append]; omega

theorem jn_take (hs : List ByteArray) (k : Nat) (h : k < hs.length) : jn (hs.take (k + 1)) = (if k = 0 then [] else jn (hs.take k) ++ [44]) ++ (hs.getD k ByteArray.empty).data.toList := by
  rw [List.take_succ_eq_append_getElem h, Plain.jn_snoc]
  have h1 : (hs.take k = []) ↔ k = 0 := by
    rw [List.take_eq_nil_iff]
    constructor
    · rintro (h' | h')
      · exact h'
      · subst h'; simp at h
    · exact fun h' => .inl h'
  have h2 : hs.getD k ByteArray.empty = hs[k] := by simp [h]
  rw [h2]
  simp only [h1]
theorem weigh_take (hs : List ByteArray) (k : Nat) : weigh (hs.take k) ≤ weigh hs := by
  have h2 := weigh_append (hs.take k) (hs.drop k)
  rw [List.take_append_drop] at h2; omega
theorem jn_nil : jn [] = [] := rfl
theorem jn_more (hs os : List ByteArray) (k : Nat) (h : k < os.length) : jn (hs ++ os.take (k + 1)) = (if hs.length + k = 0 then [] else jn (hs ++ os.take k) ++ [44]) ++ (os.getD k ByteArray.empty).data.toList := by
  rw [List.take_succ_eq_append_getElem h, ← List.append_assoc, Plain.jn_snoc]
  have h1 : (hs ++ os.take k = []) ↔ hs.length + k = 0 := by
    rw [← List.length_eq_zero_iff]
    simp only [List.length_append, List.length_take]
    omega
  have h2 : os.getD k ByteArray.empty = os[k] := by simp [h]
  rw [h2]
  simp only [h1]
theorem drop_getD (os : List ByteArray) (k : Nat) (h : k < os.length) : os.drop k = os.getD k ByteArray.empty :: os.drop (k + 1) := by
  have h2 : os.getD k ByteArray.empty = os[k] := by simp [h]
  rw [h2, List.drop_eq_getElem_cons h]

/-- How far the answer has grown: all that is shown lies in it, but for what the names to come show. -/
def Grown (hs os : List ByteArray) (k : Nat) (y z : List UInt8) : Prop := z = jn (hs ++ os.take k) ∧ ∃ pre, y = pre ++ z ∧ showL hs os = pre ++ showL (hs ++ os.take k) (os.drop k)
theorem Grown.start (hs os : List ByteArray) (z : List UInt8) (h : z = jn hs) : Grown hs os 0 z z := ⟨by simpa using h, [], rfl, by simp⟩
theorem Grown.len {hs os : List ByteArray} {k : Nat} {y z : List UInt8} (h : Grown hs os k y z) : y.length ≤ (showL hs os).length := by
  obtain ⟨h1, pre, h2, h3⟩ := h
  rw [h2, h3, h1]
  have := jn_shown (hs ++ os.take k) (os.drop k)
  simp only [List.length_append]; omega
theorem Grown.fin {hs os : List ByteArray} {k : Nat} {y z : List UInt8} (h : Grown hs os k y z) (hk : k = os.length) : showL hs os = y := by
  obtain ⟨h1, pre, h2, h3⟩ := h
  rw [h3, h2, h1, hk, List.drop_length, Plain.showL_nil]
theorem Grown.step {hs os : List ByteArray} {k : Nat} {y z : List UInt8} (h : Grown hs os k y z) (hk : k < os.length) (z' : List UInt8) (hz' : z' = jn (hs ++ os.take (k + 1))) :
    Grown hs os (k + 1) (y ++ (if k + 1 = os.length then [32, 111, 114, 32] else [44, 32]) ++ z') z' := by
  obtain ⟨h1, pre, h2, h3⟩ := h
  refine ⟨hz', y ++ (if k + 1 = os.length then [32, 111, 114, 32] else [44, 32]), rfl, ?_⟩
  rw [h3, drop_getD os k hk, Plain.showL_cons, h2, h1]
  have e1 : hs ++ os.take k ++ [os.getD k ByteArray.empty] = hs ++ os.take (k + 1) := by
    rw [List.take_succ_eq_append_getElem hk]; simp [hk]
  have e2 : ((os.drop (k + 1)).length = 0) ↔ (k + 1 = os.length) := by rw [List.length_drop]; omega
  rw [e1]
  simp only [e2, List.append_assoc]

theorem conv27 {base : Nat} {w : World} {v : Value} {l : List UInt8} (h : BRow base w v l) : (convert 27 9 v).run Try.prog w = .ok (.string (str l)) w := by
  obtain ⟨ao, cap, rfl, _, hnil, hcell⟩ := owned_bytes h
  cases ao with
  | none =>
    obtain rfl := hnil rfl
    exact run_convert_bytes_nil w 27 5 Try.underlying27 Try.underlying5 _ _ 9 Try.underlying9
  | some g =>
    obtain ⟨gb, rfl, _, hc⟩ := hcell g rfl
    exact run_convert_bytes_back w 27 9 5 ⟨gb, 0, none⟩ cap l Try.underlying27 Try.underlying5 Try.underlying9 (fun j hj => by rw [Addr.add_lit, Nat.zero_add]; exact hc j hj)

set_option maxRecDepth 20000 in
set_option maxHeartbeats 4000000 in
theorem model9 (a : Option Addr) (n c : Nat) (hs : List ByteArray) (a' : Option Addr) (m c' : Nat) (os : List ByteArray) (w : World) (hx : Strs w a n hs) (hy : Strs w a' m os)
    (hw : weigh hs + weigh os ≤ 65536) (hm : m ≤ 256) :
    Calls Try.prog 9 #[.slice a n c, .slice a' m c'] w fun e w' => e = .returned (.string (str (showL hs os))) ∧ Below w.heap.size w w' := by
  have hol : Hid (os.length = m) := hy.length
  have hhl : Hid (hs.length = n) := hx.length
  have hnm : n + m ≤ 4096 := by
    have h1 := weigh_len hs; have h2 := weigh_len os
    rw [hhl.out] at h1; rw [hol.out] at h2; omega
  go_enter Try.func9, Try.ntmps9
  go_wp2
  go_loopw [5, 6, 7] (fun v q i wr => ∃ (k : Nat) (p : Int) (z : List UInt8), k ≤ n ∧ q = .int .i64 p ∧ i = .int .i64 k ∧ 0 ≤ p ∧ p ≤ 4096 ∧ Hid (p = k) ∧ Hid (z = jn (hs.take k)) ∧ BRow w.heap.size wr v z ∧ Below w.heap.size w wr) (fun _ _ i _ => n - (intOf i).toNat)
  case atStart => exact ⟨0, 0, [], by omega, rfl, rfl, by omega, by omega, rfl, rfl, BRow.nil _ _, Below.refl _ _⟩
  case round =>
    obtain ⟨k, p, z, hk, rfl, rfl, hp0, hp1, HP, HZ, hown, hbel⟩ := hrel
    have hsz := hbel.size
    by_cases hlt : k < n
    · obtain ⟨b, off, rfl, hbb, hcells⟩ := hx.cells (by omega)
      have hck0 := hcells k hlt
      obtain ⟨s, hs'⟩ : ∃ s, s = hs.getD k ByteArray.empty := ⟨_, rfl⟩
      have HJ : Hid (jn (hs.take (k + 1)) = (if k = 0 then [] else z ++ [44]) ++ s.data.toList) := by
        unfold Hid; rw [jn_take hs k (by rw [hhl.out]; exact hlt), HZ.out, hs']
      rw [← hs'] at hck0
      have hjl : (jn (hs.take (k + 1))).length ≤ 65536 := by
        have h1 := jn_le (hs.take (k + 1)); have h2 := weigh_take hs (k + 1); omega
      obtain ⟨z', hz'⟩ : ∃ z', z' = jn (hs.take (k + 1)) := ⟨_, rfl⟩
      have HZ' : Hid (z' = jn (hs.take (k + 1))) := hz'
      rw [← hz'] at hjl HJ
      have hpn : p + 1 ≤ 4096 := by have := HP.out; omega
      have HPN : Hid (p + 1 = ((k + 1 : Nat) : Int)) := by have := HP.out; unfold Hid; omega
      clear hcells hs' hz'
      by_cases hp : 0 < p
      · have HK : Hid (¬ k = 0) := by have := HP.out; unfold Hid; omega
        obtain ⟨z1, hz1⟩ : ∃ z1, z1 = z ++ [(44 : UInt8)] := ⟨_, rfl⟩
        have HZ1 : Hid (z1 = z ++ [(44 : UInt8)]) := hz1
        have HJ2 : Hid (z' = z1 ++ s.data.toList) := by unfold Hid; rw [HJ.out, if_neg HK.out, hz1]
        have hl1 : z1.length + s.size = z'.length := by rw [HJ2.out]; simp
        have hl2 : z1.length ≤ 20000000 := by omega
        have hcl : ∀ (j : Nat) u, [Value.int .u8 ((44 : UInt8).toNat : Int)][j]? = some u → (wr.alloc (.cells #[.int .u8 44] 5)).cell? ((⟨wr.heap.size, 0, none⟩ : Addr).add j) = some u := cell_new1 wr _ 5
        clear hz1
        go_wp2_with (at_builtin; refine wpList_append_byte rfl (.tmp 18) (.tmp 19) rfl w.heap.size _ _ z1 rfl (hown.alloc _) _ 1 44 rfl hcl HZ1 hl2 ?c1 ?_)
        case c1 => simp; omega
        intro v1 w1 ho1 hg1 hwh1
        have hb1 := hown.below hbel (grownBy_alloc_then hg1) hsz
        have hsz1 := hb1.size
        have hck := (hb1.cell (p := ⟨b, off + k, none⟩) hbb).trans hck0
        clear hown hbel hg1 hwh1 hcl hck0
        go_wp2_with fail
        refine (appendString12 w.heap.size v1 z1 s w1 ho1 hsz1 (by omega)).mono ?_
        rw [← HJ2.out]
        rintro e w2 ⟨v2, rfl, ho2, hg2, _⟩
        have hb2 := ho1.below hb1 hg2 hsz1
        clear ho1 hg2 hb1 hck
        go_wp2
        go_roundw
        case rel => exact ⟨k + 1, p + 1, z', by omega, by go_num, by go_num, by omega, by omega, HPN, HZ', ho2, hb2⟩
        case measure => simp [intOf]; omega
      · have hpd : decide (0 < p) = false := by simp; omega
        have HJ2 : Hid (z' = z ++ s.data.toList) := by
          have h0 : k = 0 := by have := HP.out; omega
          have h1 := HZ.out
          have h2 : z = [] := by rw [h1, h0]; rfl
          unfold Hid; rw [HJ.out, if_pos h0, h2]
        have hl1 : z.length + s.size = z'.length := by rw [HJ2.out]; simp
        have hck := (hbel.cell (p := ⟨b, off + k, none⟩) hbb).trans hck0
        clear hck0
        go_wp2_with fail
        refine (appendString12 w.heap.size _ z s wr hown hsz (by omega)).mono ?_
        rw [← HJ2.out]
        rintro e w2 ⟨v2, rfl, ho2, hg2, _⟩
        have hb2 := hown.below hbel hg2 hsz
        clear hg2 hbel hck hown
        go_wp2
        go_roundw
        case rel => exact ⟨k + 1, p + 1, z', by omega, by go_num, by go_num, by omega, by omega, HPN, HZ', ho2, hb2⟩
        case measure => simp [intOf]; omega
    · obtain rfl : k = n := by omega
      have hz : z = jn hs := by rw [HZ.out, List.take_of_length_le (by rw [hhl.out]; exact Nat.le_refl _)]
      have hzl : z.length ≤ 65536 := by rw [hz]; have := jn_le hs; omega
      have HG0 : Hid (Grown hs os 0 z z) := Grown.start hs os z hz
      have hsl := showL_le hs os hw (by rw [hol.out]; exact hm)
      clear hz HZ hlt hk
      go_wp2_with fail
      refine (appendBytes13 w.heap.size (.slice none 0 0) [] _ z wr (BRow.nil _ _) hown ?_ hsz (by simp; omega)).mono ?_
      · exact Apart.ne (fun g h _ => by cases h)
      rw [List.nil_append]
      rintro e w1 ⟨u1, rfl, ho1, hg1, hw1⟩
      have hap : Apart u1 _ := Apart.moved (v := .slice none 0 0) (fun g h _ => by cases h) hw1 hown
      have hov := hown.kept hg1 (Apart.ne (v := .slice none 0 0) (fun g h _ => by cases h))
      have hb1 := (BRow.nil w.heap.size wr).below hbel hg1 hsz
      clear hg1 hw1 hown hbel hx
      go_wp2
      go_loopw [5, 6, 8, 9] (fun v q u i wr => ∃ (j : Nat) (p : Int) (z y : List UInt8), j ≤ m ∧ q = .int .i64 p ∧ i = .int .i64 j ∧ 0 ≤ p ∧ p ≤ 4096 ∧ Hid (p = k + j) ∧ Hid (Grown hs os j y z) ∧ BRow w.heap.size wr v z ∧ BRow w.heap.size wr u y ∧ Apart u v ∧ Below w.heap.size w wr) (fun _ _ _ i _ => m - (intOf i).toNat)
      case atStart => exact ⟨0, p, z, z, by omega, rfl, rfl, hp0, hp1, by have := HP.out; unfold Hid; omega, HG0, hov, ho1, hap, hb1⟩
      case round =>
        clear HG0 hov ho1 hap hb1 HP hp0 hp1 hsz hzl
        obtain ⟨j, p, z, y, hj, rfl, rfl, hp0, hp1, HP, HG, hov, hou, hap, hbel⟩ := hrel
        have hsz := hbel.size
        by_cases hlt : j < m
        · obtain ⟨b, off, rfl, hbb, hcells⟩ := hy.cells (by omega)
          have hck0 := hcells j hlt
          obtain ⟨s, hs'⟩ : ∃ s, s = os.getD j ByteArray.empty := ⟨_, rfl⟩
          have HJ : Hid (jn (hs ++ os.take (j + 1)) = (if k + j = 0 then [] else z ++ [44]) ++ s.data.toList) := by
            unfold Hid; rw [jn_more hs os j (by rw [hol.out]; exact hlt), HG.out.1, hs', hhl.out]
          rw [← hs'] at hck0
          have hjl : (jn (hs ++ os.take (j + 1))).length ≤ 65536 := by
            have h1 := jn_le (hs ++ os.take (j + 1)); have h2 := weigh_take os (j + 1); rw [weigh_append] at h1; omega
          obtain ⟨z', hz'⟩ : ∃ z', z' = jn (hs ++ os.take (j + 1)) := ⟨_, rfl⟩
          have HZ' : Hid (z' = jn (hs ++ os.take (j + 1))) := hz'
          rw [← hz'] at hjl HJ
          have hpn : p + 1 ≤ 4096 := by have := HP.out; omega
          have HPN : Hid (p + 1 = (k : Int) + ((j + 1 : Nat) : Int)) := by have := HP.out; unfold Hid; omega
          clear hcells hs' hz'
          by_cases hp : 0 < p
          · have HK : Hid (¬ k + j = 0) := by have := HP.out; unfold Hid; omega
            obtain ⟨z1, hz1⟩ : ∃ z1, z1 = z ++ [(44 : UInt8)] := ⟨_, rfl⟩
            have HZ1 : Hid (z1 = z ++ [(44 : UInt8)]) := hz1
            have HJ2 : Hid (z' = z1 ++ s.data.toList) := by unfold Hid; rw [HJ.out, if_neg HK.out, hz1]
            have hl1 : z1.length + s.size = z'.length := by rw [HJ2.out]; simp
            have hl2 : z1.length ≤ 20000000 := by omega
            have hcl : ∀ (j : Nat) u, [Value.int .u8 ((44 : UInt8).toNat : Int)][j]? = some u → (wr.alloc (.cells #[.int .u8 44] 5)).cell? ((⟨wr.heap.size, 0, none⟩ : Addr).add j) = some u := cell_new1 wr _ 5
            clear hz1
            go_wp2_with (at_builtin; refine wpList_append_byte rfl _ _ rfl w.heap.size _ _ z1 rfl (hov.alloc _) _ 1 44 rfl hcl HZ1 hl2 ?c1 ?_)
            case c1 => simp; omega
            intro v1 w1 ho1 hg1 hwh1
            have hb1 := hov.below hbel (grownBy_alloc_then hg1) hsz
            have hou1 := hou.kept (grownBy_alloc_then hg1) hap.symm.ne
            have hap1 := (hap.symm.moved hwh1.alloc hou).symm
            have hsz1 := hb1.size
            have hck := (hb1.cell (p := ⟨b, off + j, none⟩) hbb).trans hck0
            clear hov hou hap hbel hg1 hwh1 hcl hck0
            go_wp2_with fail
            refine (appendString12 w.heap.size _ z1 s w1 ho1 hsz1 (by omega)).mono ?_
            rw [← HJ2.out]
            rintro e w2 ⟨v2, rfl, ho2, hg2, hwh2⟩
            have hb2 := ho1.below hb1 hg2 hsz1
            have hou2 := hou1.kept hg2 hap1.symm.ne
            have hap2 := hap1.symm.moved hwh2 hou1
            have hsz2 := hb2.size
            clear hg2 hwh2 hb1 hck ho1 hou1 hap1
            by_cases hje : (j : Int) = (m : Int) - 1
            · have hjd : ((j : Int) == (m : Int) - 1) = true := by simp; omega
              obtain ⟨sp, hsp⟩ : ∃ sp : List UInt8, sp = [32, 111, 114, 32] := ⟨_, rfl⟩
              have hspl : sp.length ≤ 4 := by rw [hsp]; simp
              have HGN : Hid (Grown hs os (j + 1) (y ++ sp ++ z') z') := by
                have h1 := HG.out.step (by rw [hol.out]; exact hlt) z' HZ'.out
                rw [if_pos (by rw [hol.out]; omega), ← hsp] at h1
                exact h1
              have HSP : Hid (str sp = ⟨#[32, 111, 114, 32]⟩) := by unfold Hid; rw [hsp]; rfl
              have hyl := HGN.out.len
              have hyl2 : y.length + sp.length + z'.length ≤ 17000000 := by simp only [List.length_append] at hyl; omega
              clear hsp hyl hje
              go_wp2_with fail
              rw [← HSP.out]
              refine (appendString12 w.heap.size _ y (str sp) w2 hou2 hsz2 (by rw [str_size]; omega)).mono ?_
              rw [str_data]
              rintro e w3 ⟨v3, rfl, ho3, hg3, hwh3⟩
              have hb3 := hou2.below hb2 hg3 hsz2
              have hov3 := ho2.kept hg3 hap2.symm.ne
              have hap3 := hap2.symm.moved hwh3 ho2
              have hsz3 := hb3.size
              clear hg3 hwh3 hb2 ho2 hou2 hap2
              go_wp2_with fail
              refine (appendBytes13 w.heap.size _ (y ++ sp) _ z' w3 ho3 hov3 hap3.ne hsz3 (by simp only [List.length_append]; omega)).mono ?_
              rintro e w4 ⟨v4, rfl, ho4, hg4, hwh4⟩
              have hb4 := ho3.below hb3 hg4 hsz3
              have hov4 := hov3.kept hg4 hap3.ne
              have hap4 := hap3.moved hwh4 hov3
              clear hg4 hwh4 hb3 ho3 hov3 hap3
              go_wp2
              go_roundw
              case rel => exact ⟨j + 1, p + 1, z', _, by omega, by go_num, by go_num, by omega, by omega, HPN, HGN, hov4, ho4, hap4, hb4⟩
              case measure => simp [intOf]; omega
            · have hjd : ((j : Int) == (m : Int) - 1) = false := by simp; omega
              obtain ⟨sp, hsp⟩ : ∃ sp : List UInt8, sp = [44, 32] := ⟨_, rfl⟩
              have hspl : sp.length ≤ 4 := by rw [hsp]; simp
              have HGN : Hid (Grown hs os (j + 1) (y ++ sp ++ z') z') := by
                have h1 := HG.out.step (by rw [hol.out]; exact hlt) z' HZ'.out
                rw [if_neg (by rw [hol.out]; omega), ← hsp] at h1
                exact h1
              have HSP : Hid (str sp = ⟨#[44, 32]⟩) := by unfold Hid; rw [hsp]; rfl
              have hyl := HGN.out.len
              have hyl2 : y.length + sp.length + z'.length ≤ 17000000 := by simp only [List.length_append] at hyl; omega
              clear hsp hyl hje
              go_wp2_with fail
              rw [← HSP.out]
              refine (appendString12 w.heap.size _ y (str sp) w2 hou2 hsz2 (by rw [str_size]; omega)).mono ?_
              rw [str_data]
              rintro e w3 ⟨v3, rfl, ho3, hg3, hwh3⟩
              have hb3 := hou2.below hb2 hg3 hsz2
              have hov3 := ho2.kept hg3 hap2.symm.ne
              have hap3 := hap2.symm.moved hwh3 ho2
              have hsz3 := hb3.size
              clear hg3 hwh3 hb2 ho2 hou2 hap2
              go_wp2_with fail
              refine (appendBytes13 w.heap.size _ (y ++ sp) _ z' w3 ho3 hov3 hap3.ne hsz3 (by simp only [List.length_append]; omega)).mono ?_
              rintro e w4 ⟨v4, rfl, ho4, hg4, hwh4⟩
              have hb4 := ho3.below hb3 hg4 hsz3
              have hov4 := hov3.kept hg4 hap3.ne
              have hap4 := hap3.moved hwh4 hov3
              clear hg4 hwh4 hb3 ho3 hov3 hap3
              go_wp2
              go_roundw
              case rel => exact ⟨j + 1, p + 1, z', _, by omega, by go_num, by go_num, by omega, by omega, HPN, HGN, hov4, ho4, hap4, hb4⟩
              case measure => simp [intOf]; omega
          · have hpd : decide (0 < p) = false := by simp; omega
            have HJ2 : Hid (z' = z ++ s.data.toList) := by
              have h0 : k + j = 0 := by have := HP.out; omega
              have h2 : z = [] := by
                have h3 := hhl.out
                rw [HG.out.1, show j = 0 by omega, List.take_zero, List.append_nil, List.eq_nil_of_length_eq_zero (show hs.length = 0 by omega)]; rfl
              unfold Hid; rw [HJ.out, if_pos h0, h2]
            have hl1 : z.length + s.size = z'.length := by rw [HJ2.out]; simp
            have hck := (hbel.cell (p := ⟨b, off + j, none⟩) hbb).trans hck0
            clear hck0
            go_wp2_with fail
            refine (appendString12 w.heap.size _ z s wr hov hsz (by omega)).mono ?_
            rw [← HJ2.out]
            rintro e w2 ⟨v2, rfl, ho2, hg2, hwh2⟩
            have hb2 := hov.below hbel hg2 hsz
            have hou2 := hou.kept hg2 hap.symm.ne
            have hap2 := hap.symm.moved hwh2 hou
            have hsz2 := hb2.size
            clear hg2 hwh2 hbel hck hov hou hap
            by_cases hje : (j : Int) = (m : Int) - 1
            · have hjd : ((j : Int) == (m : Int) - 1) = true := by simp; omega
              obtain ⟨sp, hsp⟩ : ∃ sp : List UInt8, sp = [32, 111, 114, 32] := ⟨_, rfl⟩
              have hspl : sp.length ≤ 4 := by rw [hsp]; simp
              have HGN : Hid (Grown hs os (j + 1) (y ++ sp ++ z') z') := by
                have h1 := HG.out.step (by rw [hol.out]; exact hlt) z' HZ'.out
                rw [if_pos (by rw [hol.out]; omega), ← hsp] at h1
                exact h1
              have HSP : Hid (str sp = ⟨#[32, 111, 114, 32]⟩) := by unfold Hid; rw [hsp]; rfl
              have hyl := HGN.out.len
              have hyl2 : y.length + sp.length + z'.length ≤ 17000000 := by simp only [List.length_append] at hyl; omega
              clear hsp hyl hje
              go_wp2_with fail
              rw [← HSP.out]
              refine (appendString12 w.heap.size _ y (str sp) w2 hou2 hsz2 (by rw [str_size]; omega)).mono ?_
              rw [str_data]
              rintro e w3 ⟨v3, rfl, ho3, hg3, hwh3⟩
              have hb3 := hou2.below hb2 hg3 hsz2
              have hov3 := ho2.kept hg3 hap2.symm.ne
              have hap3 := hap2.symm.moved hwh3 ho2
              have hsz3 := hb3.size
              clear hg3 hwh3 hb2 ho2 hou2 hap2
              go_wp2_with fail
              refine (appendBytes13 w.heap.size _ (y ++ sp) _ z' w3 ho3 hov3 hap3.ne hsz3 (by simp only [List.length_append]; omega)).mono ?_
              rintro e w4 ⟨v4, rfl, ho4, hg4, hwh4⟩
              have hb4 := ho3.below hb3 hg4 hsz3
              have hov4 := hov3.kept hg4 hap3.ne
              have hap4 := hap3.moved hwh4 hov3
              clear hg4 hwh4 hb3 ho3 hov3 hap3
              go_wp2
              go_roundw
              case rel => exact ⟨j + 1, p + 1, z', _, by omega, by go_num, by go_num, by omega, by omega, HPN, HGN, hov4, ho4, hap4, hb4⟩
              case measure => simp [intOf]; omega
            · have hjd : ((j : Int) == (m : Int) - 1) = false := by simp; omega
              obtain ⟨sp, hsp⟩ : ∃ sp : List UInt8, sp = [44, 32] := ⟨_, rfl⟩
              have hspl : sp.length ≤ 4 := by rw [hsp]; simp
              have HGN : Hid (Grown hs os (j + 1) (y ++ sp ++ z') z') := by
                have h1 := HG.out.step (by rw [hol.out]; exact hlt) z' HZ'.out
                rw [if_neg (by rw [hol.out]; omega), ← hsp] at h1
                exact h1
              have HSP : Hid (str sp = ⟨#[44, 32]⟩) := by unfold Hid; rw [hsp]; rfl
              have hyl := HGN.out.len
              have hyl2 : y.length + sp.length + z'.length ≤ 17000000 := by simp only [List.length_append] at hyl; omega
              clear hsp hyl hje
              go_wp2_with fail
              rw [← HSP.out]
              refine (appendString12 w.heap.size _ y (str sp) w2 hou2 hsz2 (by rw [str_size]; omega)).mono ?_
              rw [str_data]
              rintro e w3 ⟨v3, rfl, ho3, hg3, hwh3⟩
              have hb3 := hou2.below hb2 hg3 hsz2
              have hov3 := ho2.kept hg3 hap2.symm.ne
              have hap3 := hap2.symm.moved hwh3 ho2
              have hsz3 := hb3.size
              clear hg3 hwh3 hb2 ho2 hou2 hap2
              go_wp2_with fail
              refine (appendBytes13 w.heap.size _ (y ++ sp) _ z' w3 ho3 hov3 hap3.ne hsz3 (by simp only [List.length_append]; omega)).mono ?_
              rintro e w4 ⟨v4, rfl, ho4, hg4, hwh4⟩
              have hb4 := ho3.below hb3 hg4 hsz3
              have hov4 := hov3.kept hg4 hap3.ne
              have hap4 := hap3.moved hwh4 hov3
              clear hg4 hwh4 hb3 ho3 hov3 hap3
              go_wp2
              go_roundw
              case rel => exact ⟨j + 1, p + 1, z', _, by omega, by go_num, by go_num, by omega, by omega, HPN, HGN, hov4, ho4, hap4, hb4⟩
              case measure => simp [intOf]; omega
        · obtain rfl : j = m := by omega
          have HE : Hid (showL hs os = y) := HG.out.fin hol.out.symm
          have hcv := conv27 hou
          clear hlt hj
          go_wp2
          go_ret
          exact ⟨by rw [HE.out]; rfl, hbel⟩
end Go.Proofs.Qxb6600863a
