import Derived.Test.Qxb6605208aHW7
import Derived.Test.Qxb6605208aHW8
import Derived.Test.Qxb6605208aHW9
namespace Go.Proofs.Qxb6605208a
open Go.RowKit
open HP (WOK IsH)

theorem copy_cap (a : Option Addr) (n c : Nat) (f : Nat → Int) (w : World) (hn : n ≤ 1048576) (hz : a = none → n = 0) (h0 : Ints w a n f) :
    Calls Try.prog 9 #[.slice a n c] w fun e w' => ∃ a' c', e = .returned (.slice a' n c') ∧ n ≤ c' ∧ Below w.heap.size w w' ∧ Ints w' a' n f := by
  cases a with
  | none =>
    obtain rfl := hz rfl
    exact (copy_nil 0 c w).mono fun e w' ⟨he, hw⟩ => ⟨none, 0, he, Nat.le_refl _, hw ▸ Below.refl _ _, .inl rfl⟩
  | some ad => exact (copy_some ad n c f w hn h0).mono fun e w' ⟨he, hb, hr⟩ => ⟨_, _, he, Nat.le_refl _, hb, ints_of_row hr⟩

theorem bel_trans {w w' w'' : World} (h : Below w.heap.size w w') (k : Below w'.heap.size w' w'') : Below w.heap.size w w'' := h.trans (k.mono h.size)

theorem rowIs_below {w w' : World} {b : Nat} {t : TypeId} {n : Nat} {f : Nat → Value} (h : w.rowIs b t n f) (k : Below w.heap.size w w') : w'.rowIs b t n f := h.of_block (k.block b h.lt)

theorem lst_inj {m : Nat} {A o : Nat → Nat} (h : HS.lst m A = HS.lst m o) : ∀ i, i < m → A i = o i := by
  intro i hi
  have h1 := HS.lst_get m A i hi
  rw [h, HS.lst_get m o i hi] at h1
  exact (Option.some.inj h1).symm

theorem ints_nat {w : World} {a : Option Addr} {m n : Nat} {f : Nat → Int} (h : Ints w a m f) (hf : ∀ i, i < m → 0 ≤ f i ∧ f i < n) : Ints w a m (fun i => ((f i).toNat : Int)) :=
  h.congr fun i hi => by have := hf i hi; omega
end Go.Proofs.Qxb6605208a
