import Derived.Test.Qxb6605337aW5
namespace Go.Proofs.Qxb6605337a
open Go.RowKit

theorem CK.mono {w : World} {lo lo' bk m n k : Nat} {D : KD} (h : CK w lo bk m n k D) (hl : lo' ≤ lo) : CK w lo' bk m n k D := by
  obtain ⟨F, sa, sc, hr, hm, hi⟩ := h
  refine ⟨F, sa, sc, hr, hm, fun i hin => ?_⟩
  obtain ⟨h1, h2, h3, h4, h5⟩ := hi i hin
  refine ⟨h1, h2, h3, h4, fun hk => ?_⟩
  rcases h5 hk with h | ⟨g, m', G, e, hg, r⟩
  · exact .inl h
  · exact .inr ⟨g, m', G, e, by omega, r⟩

/-- What a clone leaves: its keys in memory of its own, from block lo on. -/
def Own (w : World) (lo : Nat) (a : Option Addr) (n : Nat) (D : KD) : Prop := n = 0 ∨ ∃ bk m, a = some ⟨bk, 0, none⟩ ∧ lo ≤ bk ∧ CK w lo bk m n n D

theorem Own.keys {w : World} {lo n : Nat} {a : Option Addr} {D : KD} (h : Own w lo a n D) : Keys w a n D := by
  rcases h with h | ⟨bk, m, rfl, _, h⟩
  · exact .inl h
  · exact h.keys

theorem Own.set {w : World} {lo n : Nat} {a : Option Addr} {D : KD} (h : Own w lo a n D) {p : Addr} (hp : p.block < lo) (v : Value) : Own (w.setCell p v) lo a n D := by
  rcases h with h | ⟨bk, m, e, hb, h⟩
  · exact .inl h
  · exact .inr ⟨bk, m, e, hb, h.setOther (by omega) hp v⟩

theorem Own.below {w w' : World} {lo n : Nat} {a : Option Addr} {D : KD} (h : Own w lo a n D) (hb : Below w.heap.size w w') : Own w' lo a n D := by
  rcases h with h | ⟨bk, m, e, hl, h⟩
  · exact .inl h
  · exact .inr ⟨bk, m, e, hl, h.below hb⟩

/-- Auth.clone. -/
theorem clone_any (t s : Int) (a : Option Addr) (n c : Nat) (D : KD) (w : World) (hn : n ≤ 32768) (hsl : ∀ i, i < n → D.sl i ≤ 1048576) (hnl : ∀ i, i < n → D.nl i = true → D.sl i = 0) (hz : a.isNone = true → n = 0) (hK : Keys w a n D) :
    Calls Try.prog 21 #[.agg #[.int .u8 t, .slice a n c, .int .u8 s]] w fun e w' => ∃ a' c', e = .returned (.agg #[.int .u8 t, .slice a' n c', .int .u8 s]) ∧ a'.isNone = a.isNone ∧ Below w.heap.size w w' ∧ Own w' w.heap.size a' n D := by
  cases a with
  | none =>
    obtain rfl := hz rfl
    exact (clone_nil t s c w).mono fun e w' ⟨he, hb⟩ => ⟨none, 0, he, rfl, hb, .inl rfl⟩
  | some ad => exact (clone_some t s ad n c D w hn hsl hnl hK).mono fun e w' ⟨bk, m, cap, he, hbk, hb, hc⟩ => ⟨_, _, he, rfl, hb, .inr ⟨bk, m, rfl, hbk, hc.mono (by omega)⟩⟩

set_option maxHeartbeats 2000000 in
/-- ZZClone. -/
theorem zzclone_any (t s : Int) (a : Option Addr) (n c : Nat) (D : KD) (w : World) (hn : n ≤ 32768) (hsl : ∀ i, i < n → D.sl i ≤ 1048576) (hnl : ∀ i, i < n → D.nl i = true → D.sl i = 0) (hz : a.isNone = true → n = 0) (hK : Keys w a n D) :
    Calls Try.prog 16 #[.agg #[.int .u8 t, .slice a n c, .int .u8 s]] w fun e w' => ∃ a' c', e = .returned (.agg #[.int .u8 t, .slice a' n c', .int .u8 s]) ∧ a'.isNone = a.isNone ∧ Below w.heap.size w w' ∧ Own w' w.heap.size a' n D := by
  have BW : Below w.heap.size w ((w.alloc (.cells #[.int .u8 t, .slice a n c, .int .u8 s] 29)).alloc (.cells #[.int .u8 0, .slice none 0 0, .int .u8 0] 29)) := bel_alloc (bel_alloc (Below.refl _ _) _) _
  have HCL : Hid (Calls Try.prog 21 #[.agg #[.int .u8 t, .slice a n c, .int .u8 s]] ((w.alloc (.cells #[.int .u8 t, .slice a n c, .int .u8 s] 29)).alloc (.cells #[.int .u8 0, .slice none 0 0, .int .u8 0] 29)) fun e w' => ∃ a' c', e = .returned (.agg #[.int .u8 t, .slice a' n c', .int .u8 s]) ∧
      w'.cell? ⟨w.heap.size + 1, 0, none⟩ = some (.int .u8 0) ∧ w'.cell? ⟨w.heap.size + 1, 1, none⟩ = some (.slice none 0 0) ∧ w'.cell? ⟨w.heap.size + 1, 2, none⟩ = some (.int .u8 0) ∧ (∀ j, w'.frozen? ⟨w.heap.size + 1, j, none⟩ = false) ∧
      Hid (a'.isNone = a.isNone ∧ Below w.heap.size w w' ∧ Own w' (w.heap.size + 2) a' n D)) := by
    refine (clone_any t s a n c D _ hn hsl hnl hz (hK.below BW (Nat.le_refl _))).mono ?_
    rintro e w' ⟨a', c', he, hnn, hb, ho⟩
    have h := row3 (w.alloc (.cells #[.int .u8 t, .slice a n c, .int .u8 s] 29)) (.int .u8 0) (.slice none 0 0) (.int .u8 0) 29
    rw [World.size_alloc] at h
    have hr := rowIs_below h hb (by rw [World.size_alloc, World.size_alloc]; omega)
    rw [World.size_alloc, World.size_alloc] at ho
    exact ⟨a', c', he, hr.cell (i := 0) (by omega), hr.cell (i := 1) (by omega), hr.cell (i := 2) (by omega), fun j => hr.frozen j, hnn, bel_trans BW hb, ho⟩
  clear BW hK hsl hnl hz
  go_enter Try.func16, Try.ntmps16
  go_wp2_with fail
  refine HCL.out.mono ?_
  rintro e w' ⟨a', c', rfl, v0, v1, v2, vz, HH⟩
  go_wp2
  exact bodyPost_ret (v := .agg #[.int .u8 t, .slice a' n c', .int .u8 s]) (by simp [results, Try.results16, go_sem, v0, v1, v2]) rfl
    ⟨a', c', rfl, HH.out.1, ((HH.out.2.1.setCell (by simp) _).setCell (by simp) _).setCell (by simp) _, by
      have h := ((HH.out.2.2.set (p := ⟨w.heap.size + 1, 0, none⟩) (by simp) (.int .u8 t)).set (p := ⟨w.heap.size + 1, 1, none⟩) (by simp) (.slice a' n c')).set (p := ⟨w.heap.size + 1, 2, none⟩) (by simp) (.int .u8 s)
      rcases h with h | ⟨bk, m, e, hl, h⟩
      · exact .inl h
      · exact .inr ⟨bk, m, e, by omega, h.mono (by omega)⟩⟩
end Go.Proofs.Qxb6605337a
