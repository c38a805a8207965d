import Derived.Test.Qxb6605462aWalks
namespace Go.Proofs.Qxb6605462a
open Go.RowKit
open PF

set_option maxHeartbeats 1000000 in
/-- A point, then the loops. -/
theorem pf_point (s : ByteArray) (w : World) (hs : s.size ≤ maxLen) (h : 2 ≤ s.size) (hc : (s[0].toNat : Int) = 46) :
    Calls Try.prog 12 #[.string s] w fun e w' => ((okP s ∧ e = .returned (.tuple #[.int .i64 (V s), .bool true])) ∨ (¬ okP s ∧ e = .returned (.tuple #[.int .i64 0, .bool false]))) ∧ w' = w := by
  unfold maxLen at hs
  have h' : ¬ (s.size : Int) < 2 := by omega
  have h0 : 0 < s.size := by omega
  have hb : ((s[0].toNat : Int) != 46) = false := by simpa using hc
  have Hc : Hid ((s[0].toNat : Int) = 46) := hc
  clear hc
  go_enter Try.func12, Try.ntmps12
  go_wp2
  go_loop [4, 5] (fun u i => ∃ k : Nat, 1 ≤ k ∧ k ≤ s.size ∧ i = .int .i64 k ∧ u = .int .i64 (U s k) ∧ ∀ i, 1 ≤ i → i < k → dig s i) (fun _ i => s.size - (intOf i).toNat)
  case atStart => exact ⟨1, by omega, by omega, rfl, by rw [U_one], fun i a b => by omega⟩
  case round =>
    obtain ⟨k, hk1, hk, rfl, rfl, hd⟩ := hrel
    have hU := U_bd (s := s) (k := k) (fun i a b _ => hd i a b)
    have Hd : Hid (∀ i, 1 ≤ i → i < k → dig s i) := hd
    clear hd
    by_cases hlt : k < s.size
    · by_cases hdg : (48 : Int) ≤ (s[k].toNat : Int) ∧ (s[k].toNat : Int) ≤ 57
      · obtain ⟨hd1, hd2⟩ := hdg
        have Hd' : Hid (∀ i, 1 ≤ i → i < k + 1 → dig s i) := by
          intro i a b
          by_cases e : i = k
          · subst e; exact ⟨hlt, hd1, hd2⟩
          · exact Hd.out i a (by omega)
        by_cases h6 : k ≤ 6
        · have HS : Hid (U s (k + 1) = 10 * U s k + ((s[k].toNat : Int) - 48)) := U_step hk1 h6 hlt
          go_wp2_with (go_at_call 14; refine (isDigit_yes _ _ ?_ ?_).mono ?_)
          go_round
          case rel => exact ⟨k + 1, by omega, by omega, by go_num, by rw [HS.out], Hd'.out⟩
          case measure => simp [intOf]; omega
        · by_cases h7 : k = 7
          · have h8 : U s (k + 1) = U s k + if (53 : Int) ≤ (s[k].toNat : Int) then 1 else 0 := by subst h7; exact U_seven hlt
            have HS : Hid (U s (k + 1) = U s k + if (53 : Int) ≤ (s[k].toNat : Int) then 1 else 0) := h8
            clear h8
            have hb7 : ((k : Int) == 7) = true := by simp; omega
            have h6' : ¬ (k : Int) ≤ 6 := by omega
            clear h7
            by_cases h53 : (53 : Int) ≤ (s[k].toNat : Int)
            · go_wp2_with (go_at_call 14; refine (isDigit_yes _ _ ?_ ?_).mono ?_)
              go_round
              case rel => exact ⟨k + 1, by omega, by omega, by go_num, by rw [HS.out, if_pos h53], Hd'.out⟩
              case measure => simp [intOf]; omega
            · go_wp2_with (go_at_call 14; refine (isDigit_yes _ _ ?_ ?_).mono ?_)
              go_round
              case rel => exact ⟨k + 1, by omega, by omega, by go_num, by rw [HS.out, if_neg (by omega)]; go_num, Hd'.out⟩
              case measure => simp [intOf]; omega
          · have HS : Hid (U s (k + 1) = U s k) := U_high (by omega)
            have hb7 : ((k : Int) == 7) = false := by simp; omega
            have h6' : ¬ (k : Int) ≤ 6 := by omega
            go_wp2_with (go_at_call 14; refine (isDigit_yes _ _ ?_ ?_).mono ?_)
            go_round
            case rel => exact ⟨k + 1, by omega, by omega, by go_num, by rw [HS.out], Hd'.out⟩
            case measure => simp [intOf]; omega
      · have hno : ¬ okP s := by
          intro ho
          obtain ⟨_, a, b⟩ := ho.2.2 k hk1 hlt
          exact hdg ⟨a, b⟩
        have hdd : (s[k].toNat : Int) < 48 ∨ 57 < (s[k].toNat : Int) := by omega
        have HN : Hid (¬ okP s) := hno
        have HD : Hid ((s[k].toNat : Int) < 48 ∨ 57 < (s[k].toNat : Int)) := hdd
        clear hdg hno hdd
        have hb0 : 0 ≤ (s[k].toNat : Int) := by omega
        have hb1 : (s[k].toNat : Int) ≤ 255 := by have := UInt8.toNat_lt s[k]; omega
        go_wp2_with fail
        refine (isDigit_no _ _ ?_).mono ?_
        · exact HD.out
        rintro e w' ⟨rfl, rfl⟩
        go_wp2
        go_ret2
        exact ⟨.inr ⟨HN.out, rfl⟩, rfl⟩
    · have hok : okP s := ⟨⟨h0, Hc.out⟩, h, fun i a b => Hd.out i a (by omega)⟩
      have HO : Hid (okP s) := hok
      clear hok
      obtain rfl : k = s.size := by omega
      go_wp2
      go_loop [4, 7] (fun u i => ∃ k : Nat, 2 ≤ k ∧ s.size ≤ k ∧ (k ≤ 7 ∨ k = s.size) ∧ i = .int .i64 k ∧ u = .int .i64 (U s k)) (fun _ i => 7 - (intOf i).toNat)
      case atStart => exact ⟨s.size, by omega, by omega, .inr rfl, rfl, rfl⟩
      case round =>
        obtain ⟨k, hk1, hk, hk7, rfl, rfl⟩ := hrel
        have hU2 : 0 ≤ U s k ∧ U s k ≤ 1000000 := by
          exact U_bd fun i a _ c => Hd.out i a c
        by_cases h6 : k ≤ 6
        · have HS : Hid (U s (k + 1) = U s k * 10) := M_step hk (by omega) h6
          go_wp2
          go_round
          case rel => exact ⟨k + 1, by omega, by omega, .inl (by omega), by go_num, by rw [HS.out]⟩
          case measure => simp [intOf]; omega
        · have HV : Hid (U s k = V s) := U_end hk (by omega)
          go_wp2
          go_ret2
          exact ⟨.inl ⟨HO.out, HV.out ▸ rfl⟩, rfl⟩

/-- parseFraction, whatever the text. -/
theorem pf_any (s : ByteArray) (w : World) (hs : s.size ≤ maxLen) :
    Calls Try.prog 12 #[.string s] w fun e w' => ((okP s ∧ e = .returned (.tuple #[.int .i64 (V s), .bool true])) ∨ (¬ okP s ∧ e = .returned (.tuple #[.int .i64 0, .bool false]))) ∧ w' = w := by
  by_cases h2 : 2 ≤ s.size
  · by_cases hc : (s[0].toNat : Int) = 46
    · exact pf_point s w hs h2 hc
    · exact (pf_nopoint s w h2 hc).mono fun e w' ⟨he, hw⟩ => ⟨.inr ⟨fun ho => hc ho.1.2, he⟩, hw⟩
  · exact (pf_short s w (by omega)).mono fun e w' ⟨he, hw⟩ => ⟨.inr ⟨fun ho => h2 ho.2.1, he⟩, hw⟩

theorem zzpf_yes (s : ByteArray) (w : World) (hs : s.size ≤ maxLen) (ho : okP s) :
    Calls Try.prog 8 #[.string s] w fun e w' => e = .returned (.tuple #[.int .i64 (V s), .bool true]) ∧ w' = w := by
  have HO : Hid (okP s) := ho
  clear ho
  have hc : ∀ w, Calls Try.prog 12 #[.string s] w fun e w' => e = .returned (.tuple #[.int .i64 (V s), .bool true]) ∧ w' = w := fun w =>
    (pf_any s w hs).mono fun e w' ⟨he, hw⟩ => ⟨by rcases he with ⟨_, he⟩ | ⟨hn, _⟩; exact he; exact absurd HO.out hn, hw⟩
  go_enter Try.func8, Try.ntmps8
  go_wp2_with fail
  refine (hc _).mono ?_
  rintro e w' ⟨rfl, rfl⟩
  go_wp2
  go_ret2
  exact ⟨rfl, rfl⟩

theorem zzpf_no (s : ByteArray) (w : World) (hs : s.size ≤ maxLen) (ho : ¬ okP s) :
    Calls Try.prog 8 #[.string s] w fun e w' => e = .returned (.tuple #[.int .i64 0, .bool false]) ∧ w' = w := by
  have HO : Hid (¬ okP s) := ho
  clear ho
  have hc : ∀ w, Calls Try.prog 12 #[.string s] w fun e w' => e = .returned (.tuple #[.int .i64 0, .bool false]) ∧ w' = w := fun w =>
    (pf_any s w hs).mono fun e w' ⟨he, hw⟩ => ⟨by rcases he with ⟨hn, _⟩ | ⟨_, he⟩; exact absurd hn HO.out; exact he, hw⟩
  go_enter Try.func8, Try.ntmps8
  go_wp2_with fail
  refine (hc _).mono ?_
  rintro e w' ⟨rfl, rfl⟩
  go_wp2
  go_ret2
  exact ⟨rfl, rfl⟩
end Go.Proofs.Qxb6605462a
