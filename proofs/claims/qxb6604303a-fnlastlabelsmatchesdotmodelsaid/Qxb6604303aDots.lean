import Derived.Test.Qxb6604303aProg
import Derived.WalkKit
import Derived.ProofKit
import Derived.OpenShut
import Derived.WalkSpells
import Derived.PlainAid
namespace Go.Proofs.Qxb6604303a
open Go.ChangeShapes Go.WideShapes Go.ChangeAt Go.RowKit Go.PlainAid

/-- The dots among the first k bytes. -/
def dots (s : ByteArray) : Nat → Nat
  | 0 => 0
  | k + 1 => dots s k + if bt s k = 46 then 1 else 0
theorem dots_le (s : ByteArray) : ∀ k, dots s k ≤ k
  | 0 => by simp [dots]
  | k + 1 => by have := dots_le s k; simp only [dots]; split <;> omega
theorem dots_mono (s : ByteArray) : ∀ {i j : Nat}, i ≤ j → dots s i ≤ dots s j
  | i, 0, h => by obtain rfl : i = 0 := by omega
                  exact Nat.le_refl _
  | i, j + 1, h => by
    by_cases hij : i = j + 1
    · rw [hij]; exact Nat.le_refl _
    · have := dots_mono s (i := i) (j := j) (by omega)
      simp only [dots]; omega
theorem dots_dot {s : ByteArray} {i : Nat} (h : bt s i = 46) : dots s (i + 1) = dots s i + 1 := by simp [dots, h]
theorem dots_none {s : ByteArray} {i : Nat} (h : ¬ bt s i = 46) : dots s (i + 1) = dots s i := by simp [dots, h]

/-- A stretch without dots. -/
theorem dots_flat {s : ByteArray} {i : Nat} : ∀ {j : Nat}, i ≤ j → (∀ k, i ≤ k → k < j → ¬ bt s k = 46) → dots s j = dots s i
  | 0, h, _ => by obtain rfl : i = 0 := by omega
                  rfl
  | j + 1, h, hk => by
    by_cases hij : i = j + 1
    · rw [hij]
    · rw [dots_none (hk j (by omega) (by omega))]
      exact dots_flat (by omega) (fun k h1 h2 => hk k h1 (by omega))

/-- The last n labels: the whole, or what stands behind the n-th dot from the end. -/
def Ans (s : ByteArray) (n : Int) (r : ByteArray) : Prop :=
  ((dots s s.size : Int) < n ∧ r = s) ∨ ∃ p : Nat, p < s.size ∧ bt s p = 46 ∧ (dots s p : Int) + n = dots s s.size ∧ r = s.extract (p + 1) s.size
theorem Ans.one {s : ByteArray} {n : Int} {r r' : ByteArray} (h : Ans s n r) (h' : Ans s n r') : r = r' := by
  rcases h with ⟨h1, hr⟩ | ⟨p, hp, hd, hn, hr⟩ <;> rcases h' with ⟨h1', hr'⟩ | ⟨p', hp', hd', hn', hr'⟩
  · rw [hr, hr']
  · have := dots_mono s (show p' + 1 ≤ s.size by omega)
    rw [dots_dot hd'] at this; omega
  · have := dots_mono s (show p + 1 ≤ s.size by omega)
    rw [dots_dot hd] at this; omega
  · have : p = p' := by
      rcases Nat.lt_trichotomy p p' with h | h | h
      · have := dots_mono s (show p + 1 ≤ p' by omega)
        rw [dots_dot hd] at this; omega
      · exact h
      · have := dots_mono s (show p' + 1 ≤ p by omega)
        rw [dots_dot hd'] at this; omega
    rw [hr, hr', this]

/-- Where the last dot of a string stands. -/
def LastDot (t : ByteArray) (r : Int) : Prop := (r = -1 ∧ ∀ k, k < t.size → ¬ bt t k = 46) ∨ ∃ i : Nat, r = i ∧ i < t.size ∧ bt t i = 46 ∧ ∀ k, i < k → k < t.size → ¬ bt t k = 46
def LastEnd (t : ByteArray) (e : Ending) : Prop := ∃ r, e = .returned (.int .i64 r) ∧ LastDot t r

set_option maxHeartbeats 400000 in
theorem last16 (t : ByteArray) (w : World) (ht : t.size ≤ 4611686018427387904) :
    Calls Try.prog 16 #[.string t, .int .u8 46] w fun e w' => LastEnd t e ∧ w = w' := by
  have hb := get_bt t
  go_enter Try.func16, Try.ntmps16
  go_wp2
  go_loop [5] (fun i => ∃ q : Nat, q ≤ t.size ∧ i = .int .i64 ((q : Int) - 1) ∧ Hid (∀ k, q ≤ k → k < t.size → ¬ bt t k = 46)) (fun i => (intOf i + 1).toNat)
  case atStart => exact ⟨t.size, Nat.le_refl _, rfl, fun k h1 h2 => by omega⟩
  case round =>
    obtain ⟨q, hq, rfl, HK⟩ := hrel
    by_cases h0 : q = 0
    · subst h0
      go_wp2
      go_ret
      exact ⟨⟨_, rfl, .inl ⟨rfl, fun k hk => HK.out k (by omega) hk⟩⟩, rfl⟩
    · obtain ⟨i, rfl⟩ : ∃ i, q = i + 1 := ⟨q - 1, by omega⟩
      have e1 : (((i + 1 : Nat) : Int) - 1) = (i : Int) := by omega
      rw [e1]
      have hbi := hb i (by omega)
      by_cases hd : bt t i = 46
      · have ht1 : (bt t i == 46) = true := by simpa using hd
        have HD : Hid (bt t i = 46) := hd
        clear hd
        go_wp2
        go_ret
        exact ⟨⟨_, rfl, .inr ⟨i, rfl, by omega, HD.out, fun k h1 h2 => HK.out k (by omega) h2⟩⟩, rfl⟩
      · have ht1 : (bt t i == 46) = false := by simpa using hd
        have HD : Hid (¬ bt t i = 46) := hd
        clear hd
        go_wp2
        go_round
        case rel =>
          refine ⟨i, by omega, by go_num, fun k h1 h2 => ?_⟩
          by_cases hki : k = i
          · rw [hki]; exact HD.out
          · exact HK.out k (by omega) h2
        case measure => first | (simp [intOf]; done) | (simp [intOf]; omega)

theorem last14 (t : ByteArray) (w : World) (ht : t.size ≤ 4611686018427387904) :
    Calls Try.prog 14 #[.string t, .int .u8 46] w fun e w' => LastEnd t e ∧ w = w' := by
  go_enter Try.func14, Try.ntmps14
  go_wp2_with fail
  refine (last16 t w ht).mono ?_
  rintro e w' ⟨⟨r, rfl, hr⟩, rfl⟩
  go_wp2
  go_ret
  exact ⟨⟨r, rfl, hr⟩, rfl⟩

theorem bt_extract (s : ByteArray) (e k : Nat) (he : e ≤ s.size) (hk : k < e) : bt (s.extract 0 e) k = bt s k := by
  have h1 : k < (s.extract 0 e).size := by simp; omega
  unfold bt
  rw [dif_pos h1, dif_pos (by omega)]
  simp [ByteArray.getElem_extract]

def AnsEnd (s : ByteArray) (n : Int) (e : Ending) : Prop := ∃ r, e = .returned (.string r) ∧ Ans s n r

set_option maxHeartbeats 800000 in
theorem labels12 (s : ByteArray) (n : Int) (w : World) (hs : s.size ≤ 1048576) (hn : 1 ≤ n) (hn63 : n ≤ 9223372036854775807) :
    Calls Try.prog 12 #[.string s, .int .i64 n] w fun e w' => AnsEnd s n e ∧ w = w' := by
  go_enter Try.func12, Try.ntmps12
  go_wp2
  go_loop [5, 9] (fun st j => ∃ (e i : Nat), e ≤ s.size ∧ (i : Int) ≤ n ∧ i ≤ s.size ∧ st = .int .i64 e ∧ j = .int .i64 i ∧ Hid (dots s e + i = dots s s.size ∧ (0 < i → e < s.size ∧ bt s e = 46))) (fun st _ => (intOf st).toNat)
  case atStart => exact ⟨s.size, 0, Nat.le_refl _, by omega, by omega, rfl, rfl, by omega, fun h => by omega⟩
  case round =>
    obtain ⟨e, i, he, hin, his, rfl, rfl, HD⟩ := hrel
    by_cases hlt : (i : Int) < n
    · have hei : (e : Int) ≤ (s.size : Int) := by omega
      have hez : (s.extract 0 e).size = e := by simp; omega
      go_wp2_with fail
      refine (last14 (s.extract 0 e) w (by rw [hez]; omega)).mono ?_
      rintro e' w' ⟨⟨r, rfl, hr⟩, rfl⟩
      unfold LastDot at hr
      rw [hez] at hr
      clear hez
      have hds := dots_le s s.size
      have hdd := HD.out.1
      rcases hr with ⟨rfl, hno⟩ | ⟨q, rfl, hqe, hqd, hno⟩
      · have HA : Hid (Ans s n s) := by
          have h1 : dots s e = dots s 0 := dots_flat (Nat.zero_le _) (fun k _ hk => by have := hno k hk; rwa [bt_extract s e k he hk] at this)
          have h2 : dots s 0 = 0 := rfl
          exact .inl ⟨by omega, rfl⟩
        clear hno hds hdd
        go_wp2
        go_ret
        exact ⟨⟨_, rfl, HA.out⟩, rfl⟩
      · rw [bt_extract s e q he hqe] at hqd
        have h1 : dots s e = dots s (q + 1) := dots_flat (by omega) (fun k h2 hk => by have := hno k (by omega) hk; rwa [bt_extract s e k he hk] at this)
        rw [dots_dot hqd] at h1
        have HD2 : Hid (dots s q + (i + 1) = dots s s.size ∧ (0 < i + 1 → q < s.size ∧ bt s q = 46)) := ⟨by omega, fun _ => ⟨by omega, hqd⟩⟩
        have hi1 : i + 1 ≤ s.size := by omega
        have hqn : ¬ ((q : Int) < 0) := by omega
        clear hno h1 hqd hds hdd
        go_wp2
        go_round
        case rel => exact ⟨q, i + 1, by omega, by omega, hi1, by go_num, by go_num, HD2⟩
        case measure => simp [intOf]; omega
    · obtain ⟨h1, h2⟩ := HD.out
      obtain ⟨h3, h4⟩ := h2 (by omega)
      have HA : Hid (Ans s n (s.extract (e + 1) s.size)) := .inr ⟨e, h3, h4, by omega, rfl⟩
      have hb1 : (e : Int) + 1 ≤ (s.size : Int) := by omega
      clear h1 h2 h4 HD
      go_wp2
      go_ret
      exact ⟨⟨_, rfl, HA.out⟩, rfl⟩

theorem labels7 (s : ByteArray) (n : Int) (w : World) (hs : s.size ≤ 1048576) (hn : 1 ≤ n) (hn63 : n ≤ 9223372036854775807) :
    Calls Try.prog 7 #[.string s, .int .i64 n] w fun e w' => AnsEnd s n e ∧ w = w' := by
  go_enter Try.func7, Try.ntmps7
  go_wp2_with fail
  refine (labels12 s n w hs hn hn63).mono ?_
  rintro e w' ⟨⟨r, rfl, hr⟩, rfl⟩
  go_wp2
  go_ret
  exact ⟨⟨r, rfl, hr⟩, rfl⟩

set_option maxHeartbeats 800000 in
theorem model8 (s : ByteArray) (n : Int) (w : World) (hs : s.size ≤ 1048576) (hn : 1 ≤ n) (hn63 : n ≤ 9223372036854775807) :
    Calls Try.prog 8 #[.string s, .int .i64 n] w fun e w' => AnsEnd s n e ∧ w = w' := by
  have hb := get_bt s
  go_enter Try.func8, Try.ntmps8
  go_wp2
  go_loop [5, 6] (fun d i => ∃ k : Nat, k ≤ s.size ∧ i = .int .i64 k ∧ d = .int .i64 (dots s k)) (fun _ i => s.size - (intOf i).toNat)
  case atStart => exact ⟨0, by omega, rfl, rfl⟩
  case round =>
    obtain ⟨k, hk, rfl, rfl⟩ := hrel
    have hdk := dots_le s k
    obtain ⟨c, hc⟩ : ∃ c, c = dots s k := ⟨_, rfl⟩
    rw [← hc] at hdk ⊢
    have HC : Hid (c = dots s k) := hc
    clear hc
    by_cases hlt : k < s.size
    · have hbk := hb k hlt
      by_cases hd : bt s k = 46
      · have ht : (bt s k == 46) = true := by simpa using hd
        have HN : Hid (dots s (k + 1) = c + 1) := by unfold Hid; rw [dots_dot hd, HC.out]
        clear hd
        go_wp2
        go_round
        case rel => exact ⟨k + 1, by omega, by go_num, by rw [HN.out]; go_num⟩
        case measure => simp [intOf]; omega
      · have ht : (bt s k == 46) = false := by simpa using hd
        have HN : Hid (dots s (k + 1) = c) := by unfold Hid; rw [dots_none hd, HC.out]
        clear hd
        go_wp2
        go_round
        case rel => exact ⟨k + 1, by omega, by go_num, by rw [HN.out]⟩
        case measure => simp [intOf]; omega
    · obtain rfl : k = s.size := by omega
      clear hlt hk
      by_cases hcn : (c : Int) < n
      · have HA : Hid (Ans s n s) := .inl ⟨by rw [← HC.out]; exact hcn, rfl⟩
        go_wp2
        go_ret
        exact ⟨⟨_, rfl, HA.out⟩, rfl⟩
      · go_wp2
        go_loop [8, 9] (fun d i => ∃ k q : Nat, k ≤ s.size ∧ q ≤ k ∧ i = .int .i64 k ∧ d = .int .i64 q ∧ Hid (q = dots s k ∧ (q : Int) ≤ (c : Int) - n)) (fun _ i => s.size - (intOf i).toNat)
        case atStart => exact ⟨0, 0, by omega, by omega, rfl, rfl, rfl, by omega⟩
        case round =>
          obtain ⟨k, q, hk, hqk, rfl, rfl, HQ⟩ := hrel
          by_cases hlt : k < s.size
          · have hbk := hb k hlt
            by_cases hd : bt s k = 46
            · have ht : (bt s k == 46) = true := by simpa using hd
              by_cases hqe : (q : Int) = (c : Int) - n
              · have hte : ((q : Int) == (c : Int) - n) = true := by simpa using hqe
                have HA : Hid (Ans s n (s.extract (k + 1) s.size)) := .inr ⟨k, hlt, hd, by rw [← HQ.out.1, ← HC.out]; omega, rfl⟩
                have hb1 : (k : Int) + 1 ≤ (s.size : Int) := by omega
                clear hd hqe
                go_wp2
                go_ret
                exact ⟨⟨_, rfl, HA.out⟩, rfl⟩
              · have hte : ((q : Int) == (c : Int) - n) = false := by simpa using hqe
                have HQ2 : Hid (q + 1 = dots s (k + 1) ∧ ((q + 1 : Nat) : Int) ≤ (c : Int) - n) := by
                  obtain ⟨h1, h2⟩ := HQ.out
                  exact ⟨by rw [dots_dot hd, h1], by omega⟩
                clear hd hqe HQ
                go_wp2
                go_round
                case rel => exact ⟨k + 1, q + 1, by omega, by omega, by go_num, by go_num, HQ2⟩
                case measure => simp [intOf]; omega
            · have ht : (bt s k == 46) = false := by simpa using hd
              have HQ2 : Hid (q = dots s (k + 1) ∧ (q : Int) ≤ (c : Int) - n) := by
                obtain ⟨h1, h2⟩ := HQ.out
                exact ⟨by rw [dots_none hd, h1], h2⟩
              clear hd HQ
              go_wp2
              go_round
              case rel => exact ⟨k + 1, q, by omega, by omega, by go_num, rfl, HQ2⟩
              case measure => simp [intOf]; omega
          · exfalso
            obtain ⟨h1, h2⟩ := HQ.out
            have hks : k = s.size := by omega
            rw [hks, ← HC.out] at h1
            omega

/-- Some bool comes back: which, does not matter. -/
def SomeBool (e : Ending) : Prop := ∃ b : Bool, e = .returned (.bool b)
theorem SomeBool.mk (b : Bool) : SomeBool (.returned (.bool b)) := ⟨b, rfl⟩

theorem bytes6 (s : ByteArray) (n : Int) (w : World) (hs : s.size ≤ 9223372036854775807) : Calls Try.prog 6 #[.string s, .int .i64 n] w fun e w' => SomeBool e ∧ w = w' := by
  by_cases hbig : (1048576 : Int) < (s.size : Int)
  · go_enter Try.func6, Try.ntmps6
    go_wp2
    go_ret
    exact ⟨SomeBool.mk _, rfl⟩
  · go_enter Try.func6, Try.ntmps6
    go_wp2
    go_ret
    exact ⟨SomeBool.mk _, rfl⟩
end Go.Proofs.Qxb6604303a
