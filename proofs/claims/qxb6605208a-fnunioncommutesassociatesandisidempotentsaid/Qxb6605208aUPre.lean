import Derived.Test.Qxb6605208aZZUnion
namespace Go.Proofs.Qxb6605208a
open Go.RowKit
open UP (Span PInv Canon IsUnion)

/-- The runs as a list. -/
def mkRuns (n : Nat) (f t : Nat → Int) : List Span := (List.range n).map fun i => (f i, t i)

theorem mkRuns_len (n : Nat) (f t : Nat → Int) : (mkRuns n f t).length = n := by simp [mkRuns]
theorem mkRuns_fst (n : Nat) (f t : Nat → Int) (i : Nat) (h : i < n) : f i = fst (mkRuns n f t) i := by simp [fst, mkRuns, h]
theorem mkRuns_snd (n : Nat) (f t : Nat → Int) (i : Nat) (h : i < n) : t i = snd (mkRuns n f t) i := by simp [snd, mkRuns, h]

theorem runs_far {n : Nat} {f t : Nat → Int} (h : RunsOK n f t) (i : Nat) : ∀ d, i + 1 + d < n → t i + 1 < f (i + 1 + d) := by
  intro d
  induction d with
  | zero =>
    intro hd
    have := (h (i + 1) (by omega)).2.2 (by omega)
    simpa using this
  | succ d ih =>
    intro hd
    have h1 := ih (by omega)
    have h2 := h (i + 1 + d) (by omega)
    have h3 := (h (i + 1 + (d + 1)) hd).2.2 (by omega)
    have e : i + 1 + (d + 1) - 1 = i + 1 + d := by omega
    rw [e] at h3
    omega

theorem mkRuns_canon {n : Nat} {f t : Nat → Int} (h : RunsOK n f t) (wf : Wf n f) : Canon (mkRuns n f t) := by
  constructor
  · intro p hp
    obtain ⟨i, hi, rfl⟩ := List.mem_map.1 hp
    have hi' : i < n := List.mem_range.1 hi
    have h1 := h i hi'
    have h2 := wf i hi'
    exact ⟨h2.1, h1.1, h1.2.1⟩
  · rw [List.pairwise_iff_getElem]
    intro i j hi hj hij
    simp only [mkRuns, List.getElem_map, List.getElem_range]
    have hn : j < n := by simpa [mkRuns] using hj
    have h1 := runs_far h i (j - (i + 1)) (by omega)
    have e : i + 1 + (j - (i + 1)) = j := by omega
    rw [e] at h1
    exact h1

theorem ints_fst {w : World} {a : Option Addr} {n : Nat} {f : Nat → Int} (t : Nat → Int) (h : Ints w a n f) : Ints w a (mkRuns n f t).length (fst (mkRuns n f t)) := by
  rw [mkRuns_len]; exact h.congr fun i hi => mkRuns_fst n f t i hi
theorem ints_snd {w : World} {a : Option Addr} {n : Nat} {t : Nat → Int} (f : Nat → Int) (h : Ints w a n t) : Ints w a (mkRuns n f t).length (snd (mkRuns n f t)) := by
  rw [mkRuns_len]; exact h.congr fun i hi => mkRuns_snd n f t i hi

/-- zzunion_any, the arguments' lengths as plain numbers. -/
theorem zzunion_at (a0 a1 a2 a3 : Option Addr) (n m c0 c1 c2 c3 : Nat) (LA LB : List Span) (w : World) (lA : LA.length = n) (lB : LB.length = m) (ha : n ≤ 262144) (hb : m ≤ 262144) (cA : Canon LA) (cB : Canon LB)
    (h0 : Ints w a0 LA.length (fst LA)) (h1 : Ints w a1 LA.length (snd LA)) (h2 : Ints w a2 LB.length (fst LB)) (h3 : Ints w a3 LB.length (snd LB)) :
    Calls Try.prog 10 #[.slice a0 n c0, .slice a1 n c1, .slice a2 m c2, .slice a3 m c3] w fun e w' => ∃ u k a' b' c' d', e = .returned (.tuple #[.slice a' k c', .slice b' k d']) ∧ k = u.length ∧ IsUnion LA LB u ∧ Below w.heap.size w w' ∧
      Ints w' a' u.length (fst u) ∧ Ints w' b' u.length (snd u) ∧ u.length ≤ n + m := by
  subst lA
  subst lB
  refine (zzunion_any a0 a1 a2 a3 c0 c1 c2 c3 LA LB w ha hb cA cB h0 h1 h2 h3).mono ?_
  rintro e w' ⟨u, a', b', c', d', he, r⟩
  exact ⟨u, _, a', b', c', d', he, rfl, r⟩

/-- zzSame, where both sides are one list's ends. -/
theorem same_fst (a b : Option Addr) (n m ca cb : Nat) (u v : List Span) (w : World) (hn : n ≤ 1048576) (e : u = v) (e1 : n = u.length) (e2 : m = v.length) (h0 : Ints w a u.length (fst u)) (h1 : Ints w b v.length (fst v)) :
    Calls Try.prog 14 #[.slice a n ca, .slice b m cb] w fun e w' => e = .returned (.bool true) ∧ Drn w w' := by
  subst e; subst e1; subst e2
  exact same_any a b _ ca cb _ _ w hn h0 h1 fun _ _ => rfl
theorem same_snd (a b : Option Addr) (n m ca cb : Nat) (u v : List Span) (w : World) (hn : n ≤ 1048576) (e : u = v) (e1 : n = u.length) (e2 : m = v.length) (h0 : Ints w a u.length (snd u)) (h1 : Ints w b v.length (snd v)) :
    Calls Try.prog 14 #[.slice a n ca, .slice b m cb] w fun e w' => e = .returned (.bool true) ∧ Drn w w' := by
  subst e; subst e1; subst e2
  exact same_any a b _ ca cb _ _ w hn h0 h1 fun _ _ => rfl

theorem drn_size {w w' : World} (h : Drn w w') : w'.heap.size = w.heap.size := by obtain ⟨q, rfl⟩ := h; rfl
theorem bel_drn {w w' w'' : World} (h : Below w.heap.size w w') (k : Drn w' w'') : Below w.heap.size w w'' := by obtain ⟨q, rfl⟩ := k; exact bel_drewN h q
theorem bel_trans {w w' w'' : World} (h : Below w.heap.size w w') (k : Below w'.heap.size w' w'') : Below w.heap.size w w'' := h.trans (k.mono h.size)
theorem ints_drn {w w' : World} {a : Option Addr} {n : Nat} {f : Nat → Int} (h : Ints w a n f) (k : Drn w w') : Ints w' a n f := h.below (k.below w.heap.size) (Nat.le_refl _)

end Go.Proofs.Qxb6605208a
