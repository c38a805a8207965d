import Derived.Test.Qxb6605337aW3
namespace Go.Proofs.Qxb6605337a
open Go.RowKit

/-- A slice that the call has built, as a row. -/
theorem own_row {w : World} {base : Nat} {e : TypeId} {size : Nat} {v : Value} {n : Nat} {xs : List Value} (h : w.ownsRow base e size v n xs) (hv : v ≠ .slice none 0 0) :
    ∃ g cap F, v = .slice (some ⟨g, 0, none⟩) n cap ∧ base ≤ g ∧ n ≤ cap ∧ w.rowIs g e (cap * size) F ∧ ∀ j, j < n * size → xs[j]? = some (F j) := by
  obtain ⟨hl, h | ⟨g, cap, cur, rfl, hg, hh, hnc, _, hsz, htk⟩⟩ := h
  · exact absurd h.1 hv
  · refine ⟨g, cap, fun j => cur.toList.getD j undef, rfl, hg, hnc, ⟨cur, hh, hsz, fun i hi => ?_⟩, fun j hj => ?_⟩
    · have : i < cur.size := by omega
      simp [this]
    · have h1 : n * size ≤ cap * size := Nat.mul_le_mul_right _ hnc
      have h2 : j < cur.size := by omega
      rw [← htk, List.getElem?_take_of_lt hj]
      simp [h2]

theorem cloneB_nil (n c : Nat) (w : World) :
    Calls Try.prog 23 #[.slice none n c] w fun e w' => e = .returned (.slice none 0 0) ∧ w' = w := by
  have k := fun (w : World) (a : Option Addr) (n c n' c' : Nat) => Lib.run_eql_slice_nil (P := Try.prog) w 36 5 a n c n' c' Try.underlying36
  go_enter Try.func23, Try.ntmps23
  go_wp2
  go_ret
  exact ⟨rfl, rfl⟩

set_option maxHeartbeats 1000000 in
theorem cloneB_some (ad : Addr) (n c : Nat) (f : Nat → Int) (w : World) (hn : n ≤ 1048576) (h0 : Bytes w (some ad) n f) :
    Calls Try.prog 23 #[.slice (some ad) n c] w fun e w' => ∃ g cap F, e = .returned (.slice (some ⟨g, 0, none⟩) n cap) ∧ w.heap.size ≤ g ∧ n ≤ cap ∧ Below w.heap.size w w' ∧ w'.rowIs g 5 cap F ∧ ∀ j, j < n → F j = .int .u8 (f j) := by
  have k := fun (w : World) (a : Option Addr) (n c n' c' : Nat) => Lib.run_eql_slice_nil (P := Try.prog) w 36 5 a n c n' c' Try.underlying36
  have H0 : Hid (Bytes w (some ad) n f) := h0
  clear h0
  obtain ⟨i, hi, hz, hs, hb⟩ := info_parts Try.info5
  go_enter Try.func23, Try.ntmps23
  go_wp2_with (at_builtin; refine wpList_append_own _ rfl (.tmp 5) (.tmp 6) 36 rfl w.heap.size 5 i (.int .u8 0) 1 1 Try.underlying36 hi hz hs hb rfl (by decide) _ 0 [] rfl ?_ ad n c ((List.range n).map fun j => .int .u8 (f j)) rfl ?_ ?_ ?_ ?_ ?_ ?_ ?_)
  case refine_1 => exact World.ownsRow_made w #[] 0 (Nat.le_refl _) (by unfold maxLen; omega) rfl
  case refine_2 => simp
  case refine_3 =>
    intro j u hu
    have hj : j < n := by
      have := (List.getElem?_eq_some_iff.1 hu).1
      simpa using this
    rcases H0.out with h | ⟨b, off, e, hc⟩
    · omega
    injection e with e
    subst e
    have hu' : u = .int .u8 (f j) := by simp [hj] at hu; exact hu.symm
    rw [Addr.add_lit, World.cell?_alloc_lt _ _ _ (World.block_lt_of_cell? w ⟨b, off + j, none⟩ (hc j hj)), hc j hj, hu']
  case refine_4 =>
    intro u hu
    obtain ⟨j, _, rfl⟩ := List.mem_map.1 hu
    rfl
  case refine_5 => unfold maxLen; omega
  case refine_6 => omega
  case refine_7 => simp
  intro v' w1 hown hgrow hv
  obtain ⟨g, cap, F, hvv, hg, hnc, hrow, hF⟩ := own_row hown hv
  have BEL : Hid (Below w.heap.size w w1) := (bel_alloc (Below.refl _ _) _).grown hgrow (by simp) (fun x e => by simp [Value.ownBlock] at e; omega)
  have ROW : Hid (w1.rowIs g 5 cap F) := by rw [Nat.mul_one] at hrow; exact hrow
  have HF : Hid (∀ j, j < n → F j = .int .u8 (f j)) := by
    intro j hj
    have h := hF j (by omega)
    simp [hj] at h
    exact h.symm
  clear hown hgrow hv hrow hF
  rw [hvv]
  go_wp2
  go_ret
  exact ⟨g, cap, F, rfl, hg, hnc, BEL.out, ROW.out, HF.out⟩

theorem cloneK_nil (n c : Nat) (w : World) :
    Calls Try.prog 22 #[.slice none n c] w fun e w' => e = .returned (.slice none 0 0) ∧ w' = w := by
  have k := fun (w : World) (a : Option Addr) (n c n' c' : Nat) => Lib.run_eql_slice_nil (P := Try.prog) w 27 38 a n c n' c' Try.underlying27
  go_enter Try.func22, Try.ntmps22
  go_wp2
  go_ret
  exact ⟨rfl, rfl⟩

/-- The cells of the keys in a row. -/
def kcell (D : KD) (sa : Nat → Option Addr) (sc : Nat → Nat) (j : Nat) : Value := if j % 2 = 0 then .int .u8 (D.id (j / 2)) else .slice (sa (j / 2)) (D.sl (j / 2)) (sc (j / 2))

set_option maxHeartbeats 1000000 in
theorem cloneK_some (ad : Addr) (n c : Nat) (D : KD) (sa : Nat → Option Addr) (sc : Nat → Nat) (w : World) (hn : n ≤ 32768)
    (h0 : n = 0 ∨ ∃ b off, ad = ⟨b, off, none⟩ ∧ ∀ i, i < n → w.cell? ⟨b, off + i * 2, none⟩ = some (.int .u8 (D.id i)) ∧ w.cell? ⟨b, off + i * 2 + 1, none⟩ = some (.slice (sa i) (D.sl i) (sc i))) :
    Calls Try.prog 22 #[.slice (some ad) n c] w fun e w' => ∃ g cap F, e = .returned (.slice (some ⟨g, 0, none⟩) n cap) ∧ w.heap.size ≤ g ∧ n ≤ cap ∧ Below w.heap.size w w' ∧ w'.rowIs g 38 (cap * 2) F ∧ ∀ j, j < n * 2 → F j = kcell D sa sc j := by
  have k := fun (w : World) (a : Option Addr) (n c n' c' : Nat) => Lib.run_eql_slice_nil (P := Try.prog) w 27 38 a n c n' c' Try.underlying27
  have H0 : Hid (n = 0 ∨ ∃ b off, ad = ⟨b, off, none⟩ ∧ ∀ i, i < n → w.cell? ⟨b, off + i * 2, none⟩ = some (.int .u8 (D.id i)) ∧ w.cell? ⟨b, off + i * 2 + 1, none⟩ = some (.slice (sa i) (D.sl i) (sc i))) := h0
  clear h0
  obtain ⟨i, hi, hz, hs, hb⟩ := info_parts Try.info38
  go_enter Try.func22, Try.ntmps22
  go_wp2_with (at_builtin; refine wpList_append_own _ rfl (.tmp 5) (.tmp 6) 27 rfl w.heap.size 38 i _ 2 32 Try.underlying27 hi hz hs hb ?_ (by decide) _ 0 [] rfl ?_ ad n c ((List.range (n * 2)).map (kcell D sa sc)) rfl ?_ ?_ ?_ ?_ ?_ ?_ ?_)
  case refine_1 => simp [Value.cells]
  case refine_2 => exact World.ownsRow_made w #[] 0 (Nat.le_refl _) (by unfold maxLen; omega) rfl
  case refine_3 => simp
  case refine_4 =>
    intro j u hu
    have hj : j < n * 2 := by
      have := (List.getElem?_eq_some_iff.1 hu).1
      simpa using this
    rcases H0.out with h | ⟨b, off, e, hc⟩
    · omega
    subst e
    have hu' : u = kcell D sa sc j := by simp [hj] at hu; exact hu.symm
    obtain ⟨c1, c2⟩ := hc (j / 2) (by omega)
    have lb : b < w.heap.size := World.block_lt_of_cell? w ⟨b, off + j / 2 * 2, none⟩ c1
    rw [Addr.add_lit, World.cell?_alloc_lt _ _ _ lb, hu']
    unfold kcell
    by_cases e : j % 2 = 0
    · rw [if_pos e, show off + j = off + j / 2 * 2 by omega]; exact c1
    · rw [if_neg e, show off + j = off + j / 2 * 2 + 1 by omega]; exact c2
  case refine_5 =>
    intro u hu
    obtain ⟨j, _, rfl⟩ := List.mem_map.1 hu
    unfold kcell
    split <;> rfl
  case refine_6 => unfold maxLen; omega
  case refine_7 => omega
  case refine_8 => simp
  intro v' w1 hown hgrow hv
  obtain ⟨g, cap, F, hvv, hg, hnc, hrow, hF⟩ := own_row hown hv
  have BEL : Hid (Below w.heap.size w w1) := (bel_alloc (Below.refl _ _) _).grown hgrow (by simp) (fun x e => by simp [Value.ownBlock] at e; omega)
  have ROW : Hid (w1.rowIs g 38 (cap * 2) F) := hrow
  have HF : Hid (∀ j, j < n * 2 → F j = kcell D sa sc j) := by
    intro j hj
    have h := hF j (by omega)
    simp [hj] at h
    exact h.symm
  clear hown hgrow hv hrow hF
  rw [hvv]
  go_wp2
  go_ret
  exact ⟨g, cap, F, rfl, hg, hnc, BEL.out, ROW.out, HF.out⟩
end Go.Proofs.Qxb6605337a
