import Derived.Test.Qxb6605452aW3
import Derived.ArgAppend
namespace Go.Proofs.Qxb6605452a
open Go.RowKit

/-- A slice of the call's own (elements of sz cells of type e), F 0 .. F (len * sz - 1) its cells; nil, or a row with room. -/
def Sl (w : World) (e : TypeId) (sz : Nat) (a : Option Addr) (len cap : Nat) (F : Nat → Value) : Prop :=
  (a = none ∧ len = 0 ∧ cap = 0) ∨ ∃ B off m H, a = some ⟨B, off, none⟩ ∧ len ≤ cap ∧ off + cap * sz ≤ m ∧ w.rowIs B e m H ∧ ∀ i, i < len * sz → H (off + i) = F i

/-- The block it lies in. -/
def blk (a : Option Addr) : Option Nat := a.map (·.block)

theorem rowIs_setCells {B : Nat} {e : TypeId} {m : Nat} : ∀ (vs : List Value) (o : Nat) (w : World) (H : Nat → Value), w.rowIs B e m H →
    ∃ H', (w.setCells B o vs).rowIs B e m H' ∧ (∀ i, i < o ∨ o + vs.length ≤ i → H' i = H i) ∧ ∀ j v, vs[j]? = some v → H' (o + j) = v
  | [], o, w, H, h => ⟨H, h, fun i _ => rfl, fun j v hv => by simp at hv⟩
  | v :: vs, o, w, H, h => by
    obtain ⟨H', h1, h2, h3⟩ := rowIs_setCells vs (o + 1) (w.setCell ⟨B, o, none⟩ v) _ (h.set o v)
    refine ⟨H', h1, fun i hi => ?_, fun j u hu => ?_⟩
    · simp only [List.length_cons] at hi
      rw [h2 i (by omega), if_neg (by omega)]
    · cases j with
      | zero =>
        simp at hu
        rw [h2 (o + 0) (by omega), if_pos (by omega), hu]
      | succ j =>
        simp at hu
        have := h3 j u hu
        rw [show o + (j + 1) = o + 1 + j by omega]; exact this

theorem grownBy_setCells (w : World) (B o : Nat) : ∀ (vs : List Value), w.grownBy (w.setCells B o vs) (some B) := by
  intro vs
  induction vs generalizing w o with
  | nil => exact ⟨rfl, rfl, rfl, Nat.le_refl _, fun _ _ _ => rfl⟩
  | cons v vs ih =>
    have h := ih (w.setCell ⟨B, o, none⟩ v) (o + 1)
    have hs : (w.setCell ⟨B, o, none⟩ v).heap.size = w.heap.size := by simp [World.setCell]
    exact ⟨h.os, h.tape, h.output, by have := h.size; rw [hs] at this; exact this, fun k hk hne => (h.block k (by rw [hs]; exact hk) hne).trans (Deep.blk_setCell_other _ _ _ _ (fun e => hne (by simp at e; rw [e])))⟩

/-- A slice that append has built anew, as a row. -/
theorem own_row {w : World} {base : Nat} {e : TypeId} {size : Nat} {v : Value} {n : Nat} {xs : List Value} (h : w.ownsRow base e size v n xs) (hn : 0 < n) :
    ∃ g cap F, v = .slice (some ⟨g, 0, none⟩) n cap ∧ base ≤ g ∧ n ≤ cap ∧ w.rowIs g e (cap * size) F ∧ ∀ j, j < n * size → xs[j]? = some (F j) := by
  obtain ⟨hl, h | ⟨g, cap, cur, rfl, hg, hh, hnc, _, hsz, htk⟩⟩ := h
  · omega
  · refine ⟨g, cap, fun j => cur.toList.getD j undef, rfl, hg, hnc, ⟨cur, hh, hsz, fun i hi => ?_⟩, fun j hj => ?_⟩
    · have : i < cur.size := by omega
      simp [this]
    · have h1 : n * size ≤ cap * size := Nat.mul_le_mul_right _ hnc
      have h2 : j < cur.size := by omega
      rw [← htk, List.getElem?_take_of_lt hj]
      simp [h2]

/-- 's = append(s, x)', one element. -/
theorem wpList_append_one (w : World) {ops : Array Oper} {rest : List Oper} {o : Oper} {a : Act} {Q : Exit → Act → World → Prop}
    (hg : o.guard = none) (s x : Operand) (t : TypeId) (hop : o.op = Op.call { callee := Callee.builtin Builtin.append, args := #[s, x], argTypes := #[t, t] })
    (e : TypeId) (z : Value) (size bytes : Nat) (h1 : Try.prog.underlying t = some (.slice e)) (hinfo : (Try.prog.info? e).map (fun i => (i.zero, i.size, i.bytes)) = some (some z, size, bytes)) (h6 : z.cells.size = size) (h7 : 0 < size)
    (ao : Option Addr) (n cap : Nat) (F : Nat → Value) (hs : a.eval s = .slice ao n cap) (hS : Sl w e size ao n cap F)
    (ad : Addr) (c : Nat) (news : List Value) (hx : a.eval x = .slice (some ad) 1 c) (hn : news.length = size) (hc : ∀ j u, news[j]? = some u → w.cell? (ad.add j) = some u) (h1c : ∀ u ∈ news, u.oneCell' = true)
    (b1 : n < 1000000000) (b2 : bytes ≤ 1000)
    (hK : ∀ a' cap' w', (∀ F', (∀ i, i < n * size → F' i = F i) → (∀ j v, news[j]? = some v → F' (n * size + j) = v) → Sl w' e size a' (n + 1) cap' F') → w.grownBy w' (blk ao) →
      ((a' = ao ∧ ao ≠ none) ∨ ∃ B', a' = some ⟨B', 0, none⟩ ∧ w.heap.size ≤ B') → wpList Try.prog ops Q rest (a.put o.dst (.slice a' (n + 1) cap')) w') :
    wpList Try.prog ops Q (o :: rest) a w := by
  obtain ⟨i, hi, hz, hsz, hb⟩ := info_parts hinfo
  have bb : (n + 1) * bytes ≤ 140737488355328 := Nat.le_trans (Nat.mul_le_mul (show n + 1 ≤ 1000000000 by omega) b2) (by decide)
  have grow : ∀ (olds : List Value), (∀ j, j < n * size → olds[j]? = some (F j)) → ∀ v' w', w'.ownsRow w.heap.size e size v' (n + 1) (olds ++ news) → w.grownBy w' none → olds.length = n * size → wpList Try.prog ops Q rest (a.put o.dst v') w' := by
    intro olds ho v' w' hr hgr hlen
    obtain ⟨g, cap', H, rfl, hg', hnc, hrow, hx'⟩ := own_row hr (by omega)
    refine hK _ _ w' (fun F' f1 f2 => .inr ⟨g, 0, _, H, rfl, hnc, by simp, hrow, fun i hi => ?_⟩) ⟨hgr.os, hgr.tape, hgr.output, hgr.size, fun k hk _ => hgr.block k hk (by simp)⟩ (.inr ⟨g, rfl, hg'⟩)
    have e1 := hx' i hi
    rw [Nat.zero_add]
    by_cases e2 : i < n * size
    · rw [List.getElem?_append_left (by omega), ho i e2] at e1
      simp at e1
      rw [← e1, f1 i e2]
    · rw [List.getElem?_append_right (by omega)] at e1
      have := f2 _ _ e1
      rw [← this]
      congr 1
      omega
  have olds_len : ((List.range (n * size)).map F).length = n * size := by simp
  have olds_get : ∀ j, j < n * size → ((List.range (n * size)).map F)[j]? = some (F j) := fun j hj => by simp [hj]
  rcases hS with ⟨rfl, rfl, rfl⟩ | ⟨B, off, m, H, rfl, hlc, hm, hr, hF⟩
  · refine wpList_append_grows w hg s x t hop e i z size bytes h1 hi hz hsz hb h6 h7 none 0 0 [] hs (fun _ => ⟨rfl, rfl⟩) (by simp) (fun b hb => by cases hb) ad 1 c news hx (by omega) hc h1c (by omega) (by decide) (by omega) ?_
    intro v' w' hr hgr
    exact grow [] (fun j hj => by omega) v' w' hr hgr (by simp)
  · refine wpList_append_arg w hg s x t hop e i z size bytes h1 hi hz hsz hb h6 h7 B off n cap ((List.range (n * size)).map F) hs olds_len ?_ ad 1 c news hx (by omega) hc h1c ?_ (by simp [maxLen]; omega) bb ?_ ?_
    · intro j u hj
      have hjl : j < n * size := by
        have := (List.getElem?_eq_some_iff.1 hj).1
        simpa using this
      rw [olds_get j hjl] at hj
      have h2 : n * size ≤ cap * size := Nat.mul_le_mul_right _ hlc
      rw [hr.cell (by omega), hF j hjl]; exact hj
    · intro hroom j hj
      have h2 : (n + 1) * size ≤ cap * size := Nat.mul_le_mul_right _ hroom
      rw [Nat.add_mul] at h2
      have h3 : off + n * size + j < m := by omega
      exact ⟨by rw [hr.cell h3]; rfl, hr.frozen _⟩
    · intro hroom
      obtain ⟨H', r1, r2, r3⟩ := rowIs_setCells news (off + n * size) w H hr
      refine hK _ _ _ (fun F' f1 f2 => .inr ⟨B, off, m, H', rfl, hroom, hm, r1, fun i hi => ?_⟩) (grownBy_setCells w B _ news) (.inl ⟨rfl, by simp⟩)
      by_cases e2 : i < n * size
      · rw [r2 _ (by omega), hF i e2, f1 i e2]
      · rw [Nat.add_mul] at hi
        have : i - n * size < news.length := by omega
        have hv : news[i - n * size]? = some news[i - n * size] := by simp [this]
        have a1 := r3 _ _ hv
        have a2 := f2 _ _ hv
        rw [show off + n * size + (i - n * size) = off + i by omega] at a1
        rw [show n * size + (i - n * size) = i by omega] at a2
        rw [a1, a2]
    · intro hfull v' w' hr' hgr
      exact grow _ olds_get v' w' hr' hgr olds_len
end Go.Proofs.Qxb6605452a
