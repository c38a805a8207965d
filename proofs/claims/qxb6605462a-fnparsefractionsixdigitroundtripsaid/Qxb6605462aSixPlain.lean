/-
  PLAIN: strings made of lists of numbers, and what parseFraction answers on them.
-/
import Derived.Test.Qxb6605462aPF
namespace Go.Proofs.Qxb6605462a.PF

/-- The string of these bytes. -/
def strOf (l : List Int) : ByteArray := l.foldl (fun r n => r.push (UInt8.ofNat n.toNat)) ByteArray.empty

theorem foldl_push (l : List Int) : ∀ r : ByteArray, (l.foldl (fun r n => r.push (UInt8.ofNat n.toNat)) r).data.toList = r.data.toList ++ l.map (fun n => UInt8.ofNat n.toNat) := by
  induction l with
  | nil => intro r; simp
  | cons a l ih =>
    intro r
    rw [List.foldl_cons, ih]
    show (r.data.push (UInt8.ofNat a.toNat)).toList ++ _ = _
    simp

theorem strOf_list (l : List Int) : (strOf l).data.toList = l.map (fun n => UInt8.ofNat n.toNat) := by
  unfold strOf
  rw [foldl_push]
  rfl

theorem strOf_size (l : List Int) : (strOf l).size = l.length := by
  have h := congrArg List.length (strOf_list l)
  rw [List.length_map, Array.length_toList] at h
  exact h

theorem strOf_get (l : List Int) (i : Nat) (h : i < (strOf l).size) (h' : i < l.length) (hb : 0 ≤ l[i] ∧ l[i] ≤ 255) : ((strOf l)[i].toNat : Int) = l[i] := by
  have e : (strOf l)[i] = UInt8.ofNat (l[i]).toNat := by
    have h1 : (strOf l).data.toList[i]? = some (UInt8.ofNat (l[i]).toNat) := by rw [strOf_list]; simp [h']
    have h2 : (strOf l).data[i]? = some (UInt8.ofNat (l[i]).toNat) := by rw [← Array.getElem?_toList]; exact h1
    obtain ⟨_, h3⟩ := Array.getElem?_eq_some_iff.1 h2
    exact h3
  rw [e, UInt8.toNat_ofNat']
  have : (l[i]).toNat % 2 ^ 8 = (l[i]).toNat := Nat.mod_eq_of_lt (by omega)
  rw [this]; omega

def dg (l : List Int) (i : Nat) : Int := if h : i < l.length then l[i] - 48 else 0

theorem D_strOf (l : List Int) (hb : ∀ x ∈ l, 0 ≤ x ∧ x ≤ 255) (i : Nat) : D (strOf l) i = dg l i := by
  by_cases h : i < l.length
  · rw [D_lt (by rw [strOf_size]; exact h), strOf_get l i _ h (hb _ (List.getElem_mem h))]
    simp [dg, h]
  · rw [D_ge (by rw [strOf_size]; omega)]
    simp [dg, h]

theorem V_strOf (l : List Int) (hb : ∀ x ∈ l, 0 ≤ x ∧ x ≤ 255) :
    V (strOf l) = 100000 * dg l 1 + 10000 * dg l 2 + 1000 * dg l 3 + 100 * dg l 4 + 10 * dg l 5 + dg l 6 + if 5 ≤ dg l 7 then 1 else 0 := by
  unfold V
  have e : T (strOf l) 6 = 10 * (10 * (10 * (10 * (10 * (10 * 0 + D (strOf l) 1) + D (strOf l) 2) + D (strOf l) 3) + D (strOf l) 4) + D (strOf l) 5) + D (strOf l) 6 := rfl
  rw [e]
  simp only [D_strOf l hb]
  generalize (if 5 ≤ dg l 7 then (1 : Int) else 0) = z
  omega

theorem ok_strOf (l : List Int) (hl : 2 ≤ l.length) (h0 : ∀ h : 0 < l.length, l[0] = 46) (hd : ∀ i, 1 ≤ i → ∀ h : i < l.length, 48 ≤ l[i] ∧ l[i] ≤ 57) : okP (strOf l) := by
  have hs := strOf_size l
  refine ⟨⟨by omega, ?_⟩, by omega, fun i a b => ⟨b, ?_⟩⟩
  · have e := h0 (by omega)
    rw [strOf_get l 0 _ (by omega) (by omega)]; exact e
  · have e := hd i a (by omega)
    rw [strOf_get l i _ (by omega) (by omega)]; exact e

/-- A point and digits: the list of the digits' values. -/
def txt (ds : List Int) : List Int := 46 :: ds.map (48 + ·)

theorem txt_len (ds : List Int) : (txt ds).length = ds.length + 1 := by simp [txt]

theorem ok_txt (ds : List Int) (hl : 1 ≤ ds.length) (hd : ∀ d ∈ ds, 0 ≤ d ∧ d ≤ 9) : okP (strOf (txt ds)) := by
  refine ok_strOf _ (by rw [txt_len]; omega) (fun _ => rfl) fun i a h => ?_
  obtain ⟨j, rfl⟩ : ∃ j, i = j + 1 := ⟨i - 1, by omega⟩
  have hj : j < ds.length := by rw [txt_len] at h; omega
  have := hd _ (List.getElem_mem hj)
  simp only [txt, List.getElem_cons_succ, List.getElem_map]
  omega

theorem V_txt (ds : List Int) (hd : ∀ d ∈ ds, 0 ≤ d ∧ d ≤ 9) :
    V (strOf (txt ds)) = 100000 * ds.getD 0 0 + 10000 * ds.getD 1 0 + 1000 * ds.getD 2 0 + 100 * ds.getD 3 0 + 10 * ds.getD 4 0 + ds.getD 5 0 + if 5 ≤ ds.getD 6 0 then 1 else 0 := by
  rw [V_strOf]
  · have e : ∀ j, dg (txt ds) (j + 1) = ds.getD j 0 := by
      intro j
      by_cases h : j < ds.length
      · simp [dg, txt, h]; omega
      · simp [dg, txt, h]
    simp only [e]
  · intro x hx
    simp only [txt, List.mem_cons, List.mem_map] at hx
    rcases hx with rfl | ⟨d, hm, rfl⟩
    · omega
    · have := hd d hm; omega
end Go.Proofs.Qxb6605462a.PF
