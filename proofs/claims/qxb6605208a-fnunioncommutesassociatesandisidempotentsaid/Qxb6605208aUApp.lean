import Derived.Test.Qxb6605208aURuns
import Derived.Test.Qxb6605208aUPlain
namespace Go.Proofs.Qxb6605208a
open Go.RowKit
open UP (Span)

/-- The row under u. -/
def UF (u : List Span) : Nat → Value := SF (fun i => (u.getD i (0, 0)).1) (fun i => (u.getD i (0, 0)).2)

theorem uf_append (u : List Span) (s : Span) (j : Nat) : UF (u ++ [s]) j = if j = u.length * 2 then .int .i64 s.1 else if j = u.length * 2 + 1 then .int .i64 s.2 else UF u j := by
  unfold UF SF
  by_cases e1 : j = u.length * 2
  · subst e1
    have e3 : u.length * 2 / 2 = u.length := by omega
    simp [e3]
  · rw [if_neg e1]
    by_cases e2 : j = u.length * 2 + 1
    · subst e2
      have e3 : (u.length * 2 + 1) / 2 = u.length := by omega
      simp [e3]
    · rw [if_neg e2]
      have e3 : j / 2 ≠ u.length := by omega
      have e4 : (u ++ [s]).getD (j / 2) (0, 0) = u.getD (j / 2) (0, 0) := by
        simp only [List.getD_eq_getElem?_getD]
        by_cases h : j / 2 < u.length
        · rw [List.getElem?_append_left h]
        · rw [List.getElem?_eq_none (l := u ++ [s]) (by simp; omega), List.getElem?_eq_none (l := u) (by omega)]
      simp only [e4]

theorem uf_last (v : List Span) (p : Span) : UF (v ++ [p]) (v.length * 2 + 1) = .int .i64 p.2 := by rw [uf_append, if_neg (by omega), if_pos rfl]

/-- A new 'to' at the last run. -/
theorem uf_join (v : List Span) (p : Span) (y : Int) (j : Nat) : (if j = v.length * 2 + 1 then Value.int .i64 y else UF (v ++ [p]) j) = UF (v ++ [(p.1, y)]) j := by
  rw [uf_append, uf_append]
  by_cases e1 : j = v.length * 2
  · subst e1; simp
  · simp only [e1, if_false]
    split <;> rfl

/-- 'u = append(u, s)', there is room. -/
theorem run_append_span (w : World) (B cap : Nat) (u : List Span) (s : Span) (ty : TypeId) (hr : w.rowIs B 41 (2 * cap) (UF u)) (ad : Addr) (c : Nat)
    (h0 : w.cell? (ad.add 0) = some (.int .i64 s.1)) (h1 : w.cell? (ad.add 1) = some (.int .i64 s.2)) (hroom : u.length + 1 ≤ cap) :
    ∃ w', (Builtin.append_ #[37, 37] ty #[.slice (some ⟨B, 0, none⟩) u.length cap, .slice (some ad) 1 c]).run Try.prog w = .ok (.slice (some ⟨B, 0, none⟩) (u.length + 1) cap) w' ∧
      w'.rowIs B 41 (2 * cap) (UF (u ++ [s])) ∧ w.grownBy w' (some B) := by
  obtain ⟨i, hi, hz, hs, hb⟩ := info_parts Try.info41
  obtain ⟨cur, hcur, hsz, hc⟩ := hr
  have hrun := run_append_room (P := Try.prog) w 37 ty 41 i Try.underlying37 hi B u.length cap cur hcur ad 1 c [.int .i64 s.1, .int .i64 s.2] (by rw [hs]; rfl)
    (by
      intro j v hv
      match j, hv with
      | 0, hv => simp at hv; subst hv; exact h0
      | 1, hv => simp at hv; subst hv; exact h1)
    (by intro v hv; simp at hv; rcases hv with rfl | rfl <;> rfl) hroom (by rw [hs]; simp; omega)
  refine ⟨_, hrun, ⟨_, setRow_heap w B cur _ 41 _ hcur, ?_, ?_⟩, ⟨rfl, rfl, rfl, by simp, fun k _ hk => setRow_other w B k _ (fun e => hk (by rw [e]))⟩⟩
  · rw [hs]; simp; omega
  · intro j hj
    rw [hs, uf_append]
    have hl : cur.toList.length = 2 * cap := by simpa using hsz
    have hcj := hc j hj
    rw [← Array.getElem?_toList] at hcj
    simp only [List.getElem?_toArray, List.append_assoc]
    by_cases e1 : j < u.length * 2
    · rw [List.getElem?_append_left (by simp; omega), List.getElem?_take_of_lt e1, hcj, if_neg (by omega), if_neg (by omega)]
    · rw [List.getElem?_append_right (by simp; omega)]
      have hlt : (cur.toList.take (u.length * 2)).length = u.length * 2 := by simp; omega
      rw [hlt]
      by_cases e2 : j = u.length * 2
      · subst e2; simp
      · by_cases e3 : j = u.length * 2 + 1
        · subst e3
          rw [if_neg e2, if_pos rfl, show u.length * 2 + 1 - u.length * 2 = 1 by omega]
          simp
        · rw [if_neg e2, if_neg e3, List.getElem?_append_right (by simp; omega), List.getElem?_drop]
          rw [← hcj]
          congr 1
          simp
          omega

theorem wpList_append_span (w : World) {ops : Array Oper} {rest : List Oper} {o : Oper} {a : Act} {Q : Exit → Act → World → Prop}
    (hg : o.guard = none) (x y : Operand) (hop : o.op = Op.call { callee := Callee.builtin Builtin.append, args := #[x, y], argTypes := #[37, 37] })
    (B cap : Nat) (u : List Span) (s : Span) (n : Nat) (hn : n = u.length) (hx : a.eval x = .slice (some ⟨B, 0, none⟩) n cap) (ad : Addr) (c : Nat) (hy : a.eval y = .slice (some ad) 1 c)
    (hr : w.rowIs B 41 (2 * cap) (UF u))
    (h0 : w.cell? (ad.add 0) = some (.int .i64 s.1)) (h1 : w.cell? (ad.add 1) = some (.int .i64 s.2)) (hroom : u.length + 1 ≤ cap)
    (hK : ∀ w', w'.rowIs B 41 (2 * cap) (UF (u ++ [s])) → w.grownBy w' (some B) → wpList Try.prog ops Q rest (a.put o.dst (.slice (some ⟨B, 0, none⟩) (u.length + 1) cap)) w') :
    wpList Try.prog ops Q (o :: rest) a w := by
  subst hn
  refine wpList_plain hg fun K hK' => ?_
  obtain ⟨w', hrun, r1, r2⟩ := run_append_span w B cap u s o.type hr ad c h0 h1 hroom
  unfold Oper.wp
  simp [execOp, hop, resolve, invoke, builtin, hx, hy, hrun, Result.andThen]
  exact hK' _ _ (hK w' r1 r2)
end Go.Proofs.Qxb6605208a
