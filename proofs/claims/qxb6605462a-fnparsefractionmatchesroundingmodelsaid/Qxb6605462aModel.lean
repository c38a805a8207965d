import Derived.Test.Qxb6605462aParse
namespace Go.Proofs.Qxb6605462a
open Go.RowKit
open PF

theorem bytes_yes (s : ByteArray) (w : World) (hs : s.size ≤ 1048576) :
    Calls Try.prog 7 #[.string s] w fun e w' => e = .returned (.bool true) ∧ w' = w := by
  have h' : ¬ (1048576 : Int) < (s.size : Int) := by omega
  go_enter Try.func7, Try.ntmps7
  go_wp2
  go_ret
  exact ⟨rfl, rfl⟩

theorem bytes_no (s : ByteArray) (w : World) (hs : 1048576 < s.size) :
    Calls Try.prog 7 #[.string s] w fun e w' => e = .returned (.bool false) ∧ w' = w := by
  have h' : (1048576 : Int) < (s.size : Int) := by omega
  go_enter Try.func7, Try.ntmps7
  go_wp2
  go_ret
  exact ⟨rfl, rfl⟩

theorem model_long (s : ByteArray) (w : World) (hs : 1048576 < s.size) :
    Calls Try.prog 3 #[.string s] w fun e w' => e = .returned (.bool true) ∧ w' = w := by
  go_enter Try.func3, Try.ntmps3
  go_wp2_with (go_at_call 7; refine (bytes_no _ _ hs).mono ?_; rintro e w' ⟨rfl, rfl⟩)
  go_ret
  exact ⟨rfl, rfl⟩

set_option maxHeartbeats 1000000 in
theorem model_yes (s : ByteArray) (w : World) (hs : s.size ≤ 1048576) (ho : okP s) :
    Calls Try.prog 3 #[.string s] w fun e w' => e = .returned (.bool true) ∧ w' = w := by
  have hV := V_bd ho
  have HT : Hid ((T s 7 + 5) / 10 = V s) := V_tenths ho
  have HO : Hid (okP s) := ho
  obtain ⟨⟨h0, hc⟩, h2, hd⟩ := ho
  have Hc : Hid ((s[0].toNat : Int) = 46) := hc
  have hb : ((s[0].toNat : Int) == 46) = true := by simpa using hc
  have Hd : Hid (∀ i, 1 ≤ i → i < s.size → dig s i) := hd
  have h2' : (2 : Int) ≤ (s.size : Int) := by omega
  have hl' : ¬ (1048576 : Int) < (s.size : Int) := by omega
  clear hc hd
  go_enter Try.func3, Try.ntmps3
  go_wp2_with (first | (go_at_call 7; refine (bytes_yes _ _ hs).mono ?_; rintro e w' ⟨rfl, rfl⟩) | (go_at_call 8; refine (zzpf_yes _ _ (by unfold maxLen; omega) HO.out).mono ?_; rintro e w' ⟨rfl, rfl⟩))
  go_loop [5, 6] (fun b i => ∃ k : Nat, 1 ≤ k ∧ k ≤ s.size ∧ i = .int .i64 k ∧ b = .bool true) (fun _ i => s.size - (intOf i).toNat)
  case atStart => exact ⟨1, by omega, by omega, rfl, rfl⟩
  case round =>
    obtain ⟨k, hk1, hk, rfl, rfl⟩ := hrel
    by_cases hlt : k < s.size
    · obtain ⟨_, hd1, hd2⟩ := Hd.out k hk1 hlt
      have n1 : ¬ (s[k].toNat : Int) < 48 := by omega
      have n2 : ¬ (57 : Int) < (s[k].toNat : Int) := by omega
      go_wp2
      go_round
      case rel => exact ⟨k + 1, by omega, by omega, by go_num, rfl⟩
      case measure => simp [intOf]; omega
    · go_wp2
      go_loop [7, 8] (fun t i => ∃ k : Nat, 1 ≤ k ∧ k ≤ 8 ∧ i = .int .i64 k ∧ t = .int .i64 (T s (k - 1))) (fun _ i => 8 - (intOf i).toNat)
      case atStart => exact ⟨1, by omega, by omega, rfl, rfl⟩
      case round =>
        obtain ⟨j, hj1, hj, rfl, rfl⟩ := hrel
        have hTb : 0 ≤ T s (j - 1) ∧ T s (j - 1) ≤ 10000000 := by
          have hT := T_bd (s := s) (j := j - 1) (fun i a _ c => Hd.out i a c)
          have hp : (10 : Int) ^ (j - 1) ≤ 10000000 := by
            have : j - 1 = 0 ∨ j - 1 = 1 ∨ j - 1 = 2 ∨ j - 1 = 3 ∨ j - 1 = 4 ∨ j - 1 = 5 ∨ j - 1 = 6 ∨ j - 1 = 7 := by omega
            rcases this with e | e | e | e | e | e | e | e <;> rw [e] <;> decide
          omega
        by_cases h7 : j ≤ 7
        · have HS : Hid (T s (j + 1 - 1) = 10 * T s (j - 1) + D s j) := by
            obtain ⟨i, rfl⟩ : ∃ i, j = i + 1 := ⟨j - 1, by omega⟩
            simp [T, Hid]
          by_cases hjs : j < s.size
          · obtain ⟨_, hd1, hd2⟩ := Hd.out j hj1 hjs
            have HD : Hid (D s j = (s[j].toNat : Int) - 48) := D_lt hjs
            go_wp2
            go_round
            case rel => exact ⟨j + 1, by omega, by omega, by go_num, by rw [HS.out, HD.out]; go_num⟩
            case measure => simp [intOf]; omega
          · have HD : Hid (D s j = 0) := D_ge (by omega)
            go_wp2
            go_round
            case rel => exact ⟨j + 1, by omega, by omega, by go_num, by rw [HS.out, HD.out]; go_num⟩
            case measure => simp [intOf]; omega
        · obtain rfl : j = 8 := by omega
          have g7 : 0 ≤ T s 7 := hTb.1
          have g8 : T s 7 ≤ 10000000 := hTb.2
          have e5 : ((V s) == (T s 7 + 5) / 10) = true := by simpa using HT.out.symm
          have v0 := hV.1
          have v1 := hV.2
          clear hV hTb
          go_wp2
          go_ret
          exact ⟨rfl, rfl⟩

set_option maxHeartbeats 1000000 in
theorem model_no (s : ByteArray) (w : World) (hs : s.size ≤ 1048576) (ho : ¬ okP s) :
    Calls Try.prog 3 #[.string s] w fun e w' => e = .returned (.bool true) ∧ w' = w := by
  have HO : Hid (¬ okP s) := ho
  clear ho
  have hl' : ¬ (1048576 : Int) < (s.size : Int) := by omega
  -- what 'wellFormed' starts with
  obtain ⟨b0, hb0, HB0⟩ : ∃ b0 : Bool, (2 ≤ s.size → ∀ h : 0 < s.size, ((s[0].toNat : Int) == 46) = b0) ∧ Hid ((s.size < 2 → b0 = false) ∧ (b0 = true → 2 ≤ s.size ∧ ∃ h : 0 < s.size, (s[0].toNat : Int) = 46)) := by
    by_cases h2 : 2 ≤ s.size
    · refine ⟨(s[0].toNat : Int) == 46, fun _ _ => rfl, fun h => by omega, fun h => ⟨h2, by omega, by simpa using h⟩⟩
    · exact ⟨false, fun h => absurd h h2, fun _ => rfl, fun h => by cases h⟩
  by_cases h2 : 2 ≤ s.size
  · have h2' : (2 : Int) ≤ (s.size : Int) := by omega
    have h0 : 0 < s.size := by omega
    have hb := hb0 h2 h0
    clear hb0
    go_enter Try.func3, Try.ntmps3
    go_wp2_with (first | (go_at_call 7; refine (bytes_yes _ _ hs).mono ?_; rintro e w' ⟨rfl, rfl⟩) | (go_at_call 8; refine (zzpf_no _ _ (by unfold maxLen; omega) HO.out).mono ?_; rintro e w' ⟨rfl, rfl⟩))
    go_loop [5, 6] (fun b i => ∃ (k : Nat) (bb : Bool), 1 ≤ k ∧ k ≤ s.size ∧ i = .int .i64 k ∧ b = .bool bb ∧ (bb = true → b0 = true ∧ ∀ i, 1 ≤ i → i < k → dig s i)) (fun _ i => s.size - (intOf i).toNat)
    case atStart => exact ⟨1, b0, by omega, by omega, rfl, rfl, fun h => ⟨h, fun i a b => by omega⟩⟩
    case round =>
      obtain ⟨k, bb, hk1, hk, rfl, rfl, hbb⟩ := hrel
      have HB : Hid (bb = true → b0 = true ∧ ∀ i, 1 ≤ i → i < k → dig s i) := hbb
      clear hbb
      by_cases hlt : k < s.size
      · by_cases n1 : (s[k].toNat : Int) < 48
        · go_wp2
          go_round
          case rel => exact ⟨k + 1, false, by omega, by omega, by go_num, rfl, fun h => by cases h⟩
          case measure => simp [intOf]; omega
        · by_cases n2 : (57 : Int) < (s[k].toNat : Int)
          · go_wp2
            go_round
            case rel => exact ⟨k + 1, false, by omega, by omega, by go_num, rfl, fun h => by cases h⟩
            case measure => simp [intOf]; omega
          · have HB' : Hid (bb = true → b0 = true ∧ ∀ i, 1 ≤ i → i < k + 1 → dig s i) := by
              intro h
              refine ⟨(HB.out h).1, fun i a b => ?_⟩
              by_cases e : i = k
              · subst e; exact ⟨hlt, by omega, by omega⟩
              · exact (HB.out h).2 i a (by omega)
            go_wp2
            go_round
            case rel => exact ⟨k + 1, bb, by omega, by omega, by go_num, rfl, HB'.out⟩
            case measure => simp [intOf]; omega
      · have hbf : bb = false := by
          by_cases hb1 : bb = true
          · exfalso
            obtain ⟨h1, h3⟩ := HB.out hb1
            obtain ⟨h4, h5⟩ := HB0.out.2 h1
            exact HO.out ⟨h5, h4, fun i a b => h3 i a (by omega)⟩
          · simpa using hb1
        subst hbf
        go_wp2
        go_ret
        exact ⟨rfl, rfl⟩
  · have h2' : ¬ (2 : Int) ≤ (s.size : Int) := by omega
    go_enter Try.func3, Try.ntmps3
    go_wp2_with (first | (go_at_call 7; refine (bytes_yes _ _ hs).mono ?_; rintro e w' ⟨rfl, rfl⟩) | (go_at_call 8; refine (zzpf_no _ _ (by unfold maxLen; omega) HO.out).mono ?_; rintro e w' ⟨rfl, rfl⟩))
    go_loop [5, 6] (fun b i => i = .int .i64 1 ∧ b = .bool false) (fun _ i => 1)
    case atStart => exact ⟨rfl, rfl⟩
    case round =>
      obtain ⟨rfl, rfl⟩ := hrel
      go_wp2
      go_ret
      exact ⟨rfl, rfl⟩

theorem model_any (s : ByteArray) (w : World) :
    Calls Try.prog 3 #[.string s] w fun e w' => e = .returned (.bool true) ∧ w' = w := by
  by_cases hs : s.size ≤ 1048576
  · by_cases ho : okP s
    · exact model_yes s w hs ho
    · exact model_no s w hs ho
  · exact model_long s w (by omega)
end Go.Proofs.Qxb6605462a
