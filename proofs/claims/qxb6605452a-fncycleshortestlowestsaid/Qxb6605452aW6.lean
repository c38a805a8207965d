import Derived.Test.Qxb6605452aW5
namespace Go.Proofs.Qxb6605452a
open Go.RowKit

/-- A slice of numbers of the call's own. -/
def SlI (w : World) (a : Option Addr) (len cap : Nat) (f : Nat → Int) : Prop := Sl w 3 1 a len cap (fun j => .int .i64 (f j))

theorem SlI.ints {w : World} {a : Option Addr} {len cap : Nat} {f : Nat → Int} (h : SlI w a len cap f) : Ints w a len f := by
  rcases h with ⟨_, h, _⟩ | ⟨B, off, m, H, rfl, hl, hm, hr, hF⟩
  · exact .inl h
  · exact .inr ⟨B, off, rfl, fun i hi => by rw [hr.cell (by omega), hF i (by omega)]⟩

theorem SlI.congr {w : World} {a : Option Addr} {len cap : Nat} {f g : Nat → Int} (h : SlI w a len cap f) (e : ∀ i, i < len → f i = g i) : SlI w a len cap g := by
  rcases h with h | ⟨B, off, m, H, rfl, hl, hm, hr, hF⟩
  · exact .inl h
  · exact .inr ⟨B, off, m, H, rfl, hl, hm, hr, fun i hi => by rw [hF i hi]; show Value.int .i64 (f i) = .int .i64 (g i); rw [e i (by omega)]⟩

theorem Sl.of_block {w w' : World} {e : TypeId} {sz : Nat} {a : Option Addr} {len cap : Nat} {F : Nat → Value} (h : Sl w e sz a len cap F) (hb : ∀ x, a = some x → w'.heap[x.block]? = w.heap[x.block]?) : Sl w' e sz a len cap F := by
  rcases h with h | ⟨B, off, m, H, rfl, hl, hm, hr, hF⟩
  · exact .inl h
  · exact .inr ⟨B, off, m, H, rfl, hl, hm, hr.of_block (hb _ rfl), hF⟩

theorem Sl.lt {w : World} {e : TypeId} {sz : Nat} {a : Option Addr} {len cap : Nat} {F : Nat → Value} (h : Sl w e sz a len cap F) : ∀ x, a = some x → x.block < w.heap.size := by
  rcases h with ⟨h, _⟩ | ⟨B, off, m, H, rfl, hl, hm, hr, hF⟩
  · intro x hx; rw [h] at hx; cases hx
  · intro x hx; cases hx; exact hr.lt

theorem Sl.below {w w' : World} {e : TypeId} {sz : Nat} {a : Option Addr} {len cap : Nat} {F : Nat → Value} (h : Sl w e sz a len cap F) (hb : Below w.heap.size w w') : Sl w' e sz a len cap F :=
  h.of_block fun x hx => hb.block _ (h.lt x hx)

theorem Sl.alloc {w : World} {e : TypeId} {sz : Nat} {a : Option Addr} {len cap : Nat} {F : Nat → Value} (h : Sl w e sz a len cap F) (o : Obj) : Sl (w.alloc o) e sz a len cap F := h.below (bel_alloc (Below.refl _ _) o)

theorem Sl.other {w : World} {e : TypeId} {sz : Nat} {a : Option Addr} {len cap : Nat} {F : Nat → Value} (h : Sl w e sz a len cap F) {p : Addr} (hp : ∀ x, a = some x → x.block ≠ p.block) (v : Value) : Sl (w.setCell p v) e sz a len cap F :=
  h.of_block fun x hx => Deep.blk_setCell_other _ _ _ _ (hp x hx)

/-- 's = append(s, x)' at numbers. -/
theorem wpList_append_int (w : World) {ops : Array Oper} {rest : List Oper} {o : Oper} {a : Act} {Q : Exit → Act → World → Prop}
    (hg : o.guard = none) (s x : Operand) (hop : o.op = Op.call { callee := Callee.builtin Builtin.append, args := #[s, x], argTypes := #[22, 22] })
    (ao : Option Addr) (n cap : Nat) (f : Nat → Int) (v : Int) (hs : a.eval s = .slice ao n cap) (ad : Addr) (c : Nat) (hx : a.eval x = .slice (some ad) 1 c) (hS : SlI w ao n cap f)
    (hc : w.cell? (ad.add 0) = some (.int .i64 v)) (b1 : n < 1000000000)
    (hK : ∀ a' cap' w', SlI w' a' (n + 1) cap' (fun j => if j = n then v else f j) → w.grownBy w' (blk ao) →
      ((a' = ao ∧ ao ≠ none) ∨ ∃ B', a' = some ⟨B', 0, none⟩ ∧ w.heap.size ≤ B') → wpList Try.prog ops Q rest (a.put o.dst (.slice a' (n + 1) cap')) w') :
    wpList Try.prog ops Q (o :: rest) a w := by
  refine wpList_append_one w hg s x 22 hop 3 (.int .i64 0) 1 8 Try.underlying22 Try.info3 rfl (by decide) ao n cap _ hs hS ad c [.int .i64 v] hx rfl ?_ ?_ b1 (by decide) ?_
  · intro j u hu
    match j, hu with
    | 0, hu => simp at hu; subst hu; exact hc
  · intro u hu; simp at hu; subst hu; rfl
  · intro a' cap' w' h1 h2 h3
    refine hK a' cap' w' (h1 _ (fun i hi => ?_) (fun j u hu => ?_)) h2 h3
    · simp [show i ≠ n by omega]
    · match j, hu with
      | 0, hu => simp at hu; subst hu; simp

theorem bel_grown {w0 w w' : World} {row : Option Nat} (h : Below w0.heap.size w0 w) (hg : w.grownBy w' row) (hr : ∀ k, row = some k → w0.heap.size ≤ k) : Below w0.heap.size w0 w' :=
  ⟨hg.os.trans h.os, hg.tape.trans h.tape, hg.output.trans h.output, Nat.le_trans h.size hg.size, fun k hk => (hg.block k (Nat.lt_of_lt_of_le hk h.size) (fun e => by have := hr k e.symm; omega)).trans (h.block k hk)⟩

/-! ### Transpose -/

/-- The transposed graph's rows as far as built: block R the headers, each row in a block of its own. -/
def TP (w : World) (R n : Nat) (T : Gr) : Prop :=
  ∃ (Fv : Nat → Value) (sa : Nat → Option Addr) (sc : Nat → Nat), w.rowIs R 22 n Fv ∧ ∀ v, v < n → Fv v = .slice (sa v) (T.ol v) (sc v) ∧ SlI w (sa v) (T.ol v) (sc v) (fun j => (T.of v j : Int)) ∧ (∀ x, sa v = some x → R < x.block) ∧
    ∀ v', v' < n → v' ≠ v → ∀ x y, sa v = some x → sa v' = some y → x.block ≠ y.block

/-- One more. -/
def Gr.push (T : Gr) (v u : Nat) : Gr := ⟨fun x => if x = v then T.ol x + 1 else T.ol x, fun x j => if x = v ∧ j = T.ol v then u else T.of x j⟩

theorem Gr.push_E {T : Gr} {v u x y : Nat} : (T.push v u).E x y ↔ T.E x y ∨ (x = v ∧ y = u) := by
  constructor
  · rintro ⟨j, hj, he⟩
    simp only [Gr.push] at hj he
    by_cases e : x = v ∧ j = T.ol v
    · rw [if_pos e] at he; exact .inr ⟨e.1, he.symm⟩
    · rw [if_neg e] at he
      refine .inl ⟨j, ?_, he⟩
      by_cases ex : x = v
      · rw [if_pos ex] at hj
        have : j ≠ T.ol v := fun h => e ⟨ex, h⟩
        rw [ex] at hj ⊢; omega
      · rw [if_neg ex] at hj; exact hj
  · rintro (⟨j, hj, he⟩ | ⟨rfl, rfl⟩)
    · refine ⟨j, ?_, ?_⟩
      · simp only [Gr.push]; split <;> omega
      · simp only [Gr.push]
        rw [if_neg]
        · exact he
        · rintro ⟨rfl, rfl⟩; omega
    · exact ⟨T.ol x, by simp [Gr.push], by simp [Gr.push]⟩

theorem tp_step {w w0 w' : World} {R n : Nat} {T : Gr} (hb : Below w.heap.size w w0) {v u : Nat} (hv : v < n) {sa : Nat → Option Addr} {sc : Nat → Nat} {Fv : Nat → Value} (hr : w.rowIs R 22 n Fv)
    (hall : ∀ v, v < n → Fv v = .slice (sa v) (T.ol v) (sc v) ∧ SlI w (sa v) (T.ol v) (sc v) (fun j => (T.of v j : Int)) ∧ (∀ x, sa v = some x → R < x.block) ∧ ∀ v', v' < n → v' ≠ v → ∀ x y, sa v = some x → sa v' = some y → x.block ≠ y.block)
    {a' : Option Addr} {cap' : Nat} (hS : SlI w' a' (T.ol v + 1) cap' (fun j => if j = T.ol v then (u : Int) else (T.of v j : Int))) (hg : w0.grownBy w' (blk (sa v))) (hn : (a' = sa v ∧ sa v ≠ none) ∨ ∃ B', a' = some ⟨B', 0, none⟩ ∧ w0.heap.size ≤ B') :
    TP (w'.setCell ⟨R, v, none⟩ (.slice a' (T.ol v + 1) cap')) R n (T.push v u) := by
  have hR : R < w.heap.size := hr.lt
  have hsz := hb.size
  have keep : ∀ k, k < w.heap.size → some k ≠ blk (sa v) → w'.heap[k]? = w.heap[k]? := fun k hk hne => (hg.block k (by omega) hne).trans (hb.block k hk)
  obtain ⟨g1, g2, g3, g4⟩ := hall v hv
  have ltv := Sl.lt g2
  have a'R : ∀ x, a' = some x → R < x.block := by
    intro x hx
    rcases hn with ⟨e, _⟩ | ⟨B', e, hB⟩
    · rw [e] at hx; exact g3 x hx
    · rw [e] at hx; cases hx; simp; omega
  have rowR : w'.rowIs R 22 n Fv := hr.of_block (keep R hR (fun e => by
    cases hsv : sa v with
    | none => rw [hsv] at e; simp [blk] at e
    | some x => rw [hsv] at e; simp [blk] at e; have := g3 x hsv; omega))
  have a'ne : ∀ v', v' < n → v' ≠ v → ∀ x y, a' = some x → sa v' = some y → x.block ≠ y.block := by
    intro v' hv' hne x y hx hy
    rcases hn with ⟨e, _⟩ | ⟨B', e, hB⟩
    · rw [e] at hx; exact g4 v' hv' hne x y hx hy
    · rw [e] at hx; cases hx
      have := Sl.lt (hall v' hv').2.1 y hy
      simp; omega
  refine ⟨_, fun x => if x = v then a' else sa x, fun x => if x = v then cap' else sc x, rowR.set v _, fun x hx => ?_⟩
  by_cases e : x = v
  · subst e
    simp only [if_true, Gr.push]
    refine ⟨trivial, ?_, a'R, ?_⟩
    · refine Sl.other (SlI.congr hS fun i _ => ?_) (fun y hy => by have := a'R y hy; simp; omega) _
      by_cases ei : i = T.ol x <;> simp [ei]
    · intro v' hv' hne
      rw [if_neg hne]
      exact a'ne v' hv' hne
  · simp only [e, if_false, Gr.push, false_and]
    obtain ⟨h1, h2, h3, h4⟩ := hall x hx
    refine ⟨h1, ?_, h3, ?_⟩
    · refine Sl.other (Sl.of_block h2 fun y hy => keep _ (Sl.lt h2 y hy) (fun eb => ?_)) (fun y hy => by have := h3 y hy; simp; omega) _
      cases hsv : sa v with
      | none => rw [hsv] at eb; simp [blk] at eb
      | some z => rw [hsv] at eb; simp [blk] at eb; exact h4 v hv (fun e' => e e'.symm) y z hy hsv eb
    · intro v' hv' hne
      by_cases ev : v' = v
      · subst ev
        rw [if_pos rfl]
        intro y z hy hz
        exact fun hh => a'ne x hx e z y hz hy hh.symm
      · rw [if_neg ev]; exact h4 v' hv' hne

theorem TP.rows {w : World} {R n : Nat} {T : Gr} (h : TP w R n T) : Rows w (some ⟨R, 0, none⟩) n T.ol (fun v j => (T.of v j : Int)) := by
  obtain ⟨Fv, sa, sc, hr, hi⟩ := h
  refine .inr ⟨R, 0, sa, sc, rfl, fun v hv => ?_⟩
  obtain ⟨h1, h2, _⟩ := hi v hv
  refine ⟨by rw [Nat.zero_add, hr.cell hv, h1], h2.ints, fun hz => ?_⟩
  rcases h2 with ⟨_, h, _⟩ | ⟨B, off, m, H, e, _⟩
  · exact h
  · rw [e] at hz; cases hz

theorem sumTo_mono {f : Nat → Nat} {k n : Nat} (h : k ≤ n) : sumTo k f ≤ sumTo n f := by
  induction n with
  | zero => rw [show k = 0 by omega]; exact Nat.le_refl _
  | succ n ih =>
    by_cases e : k = n + 1
    · rw [e]; exact Nat.le_refl _
    · have := ih (by omega)
      simp only [sumTo]; omega
end Go.Proofs.Qxb6605452a
