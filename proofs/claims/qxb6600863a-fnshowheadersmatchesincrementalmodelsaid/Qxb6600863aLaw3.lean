import Derived.Test.Qxb6600863aHeads
namespace Go.Proofs.Qxb6600863a
open Go.ChangeShapes Go.WideShapes Go.ChangeAt Go.RowKit Go.Sort
open Plain (dat jn alt showL)

set_option maxRecDepth 20000 in
set_option maxHeartbeats 2000000 in
theorem law3 (a : Option Addr) (n c : Nat) (hs : List ByteArray) (a' : Option Addr) (m c' : Nat) (os : List ByteArray) (w : World) (hx : Strs w a n hs) (hy : Strs w a' m os) (hsh : Short hs) (hsh' : Short os) :
    Calls Try.prog 3 #[.slice a n c, .slice a' m c'] w fun e w' => e = .returned (.bool true) ∧ Below w.heap.size w w' := by
  have hhl : Hid (hs.length = n) := hx.length
  have hol : Hid (os.length = m) := hy.length
  have hsn := hx.small
  have hsm := hy.small
  go_enter Try.func3, Try.ntmps3
  go_wp2_with fail
  refine (bytes5 a n c hs a' m c' os w hx hsh hy hsh').mono ?_
  rintro e w' ⟨⟨b, rfl⟩, rfl⟩
  cases b
  · go_wp2
    go_ret
    exact ⟨rfl, Below.refl _ _⟩
  go_wp2_with fail
  refine (listBytes6 a n c hs w hx hsh).mono ?_
  rintro e w' ⟨⟨z1, rfl, hz10, hz11, hw1⟩, rfl⟩
  go_wp2_with fail
  refine (listBytes6 a' m c' os w hy hsh').mono ?_
  rintro e w' ⟨⟨z2, rfl, hz20, hz21, hw2⟩, rfl⟩
  by_cases hz : 65536 < z1 + z2
  · clear hw1 hw2
    go_wp2
    go_ret
    exact ⟨rfl, Below.refl _ _⟩
  have hw : weigh hs + weigh os ≤ 65536 := by
    have h1 := hw1 (by omega); have h2 := hw2 (by omega); omega
  have hnm : n ≤ 4096 ∧ m ≤ 4096 := by
    have h1 := weigh_len hs; have h2 := weigh_len os
    rw [hhl.out] at h1; rw [hol.out] at h2; omega
  have hn4 := hnm.1
  have hm4 := hnm.2
  clear hw1 hw2 hnm
  by_cases hm256 : (256 : Int) < (m : Int)
  · go_wp2
    go_ret
    exact ⟨rfl, Below.refl _ _⟩
  have hm1 : m ≤ 256 := by omega
  go_wp2_with fail
  refine (copyNames7 a n c hs w hx (by omega)).mono ?_
  intro e w1 hr
  obtain ⟨aH, cH, rfl, hoH, hsH, hnH, hgH⟩ := hr.open
  have hb1 : Below w.heap.size w w1 := (Below.refl _ _).grown hgH (Nat.le_refl _) (fun k hk => by cases hk)
  have hcH := owned_cap hoH
  rw [hhl.out] at hsH hcH ⊢
  clear hr hgH hoH
  go_wp2_with fail
  refine (copyNames7 a' m c' os w1 (hy.later hb1) (by omega)).mono ?_
  intro e w2 hr
  obtain ⟨aO, cO, rfl, hoO, hsO, hnO, hgO⟩ := hr.open
  have hb2' : Below w1.heap.size w1 w2 := (Below.refl _ _).grown hgO (Nat.le_refl _) (fun k hk => by cases hk)
  have hb2 : Below w.heap.size w w2 := hb1.trans (hb2'.mono hb1.size)
  have hsH2 := hsH.later hb2'
  have hcO := owned_cap hoO
  rw [hol.out] at hsO hcO ⊢
  clear hr hgO hoO hb2' hsH hb1
  go_wp2_with fail
  refine (show8 aH n cH hs aO m cO os w2 hsH2 hsO hnH hnO hcO.1 hw hm1).mono ?_
  rintro e w3 ⟨rfl, hb3⟩
  have hsH3 := hsH2.later hb3
  have hsO3 := hsO.later hb3
  have hb3' := hb2.trans (hb3.mono hb2.size)
  clear hb3 hsH2 hsO hb2
  go_wp2_with fail
  refine (model9 aH n cH hs aO m cO os w3 hsH3 hsO3 hw hm1).mono ?_
  rintro e w4 ⟨rfl, hb4⟩
  have hend : Below w.heap.size w w4 := hb3'.trans (hb4.mono hb3'.size)
  have heq : ((str (showL hs os)).toList == (str (showL hs os)).toList) = true := by simp
  clear hb4 hb3' hsH3 hsO3
  go_wp2
  go_ret
  exact ⟨rfl, hend⟩
end Go.Proofs.Qxb6600863a
