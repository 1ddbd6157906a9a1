/-
  THE PLAIN LAW of seat b6604770aF: decoding the lower-case hex of a list of bytes gives the bytes back, with no error. 'Hx.encode', 'Hx.decode': the shelf's functions.
-/
import Derived.Lib.HexFns2
namespace Hexy
open Go Go.Lib

theorem v_digit : ∀ d : Fin 16, Hx.v (Hx.digit d.val) = d.val := by decide

theorem digit_lower : ∀ d : Fin 16, (48 ≤ (Hx.digit d.val).toNat ∧ (Hx.digit d.val).toNat ≤ 57) ∨ (97 ≤ (Hx.digit d.val).toNat ∧ (Hx.digit d.val).toNat ≤ 102) := by decide

theorem digit_num : ∀ d : Fin 16, (Hx.digit d.val).toNat = if d.val < 10 then 48 + d.val else 87 + d.val := by decide

theorem decode_encode : ∀ l : List UInt8, Hx.decode (Hx.encode l) = (l, .ok) := by
  intro l
  induction l with
  | nil => exact Hx.decode_nil
  | cons a t ih =>
    have ha : a.toNat < 256 := a.toNat_lt
    have h1 := v_digit ⟨a.toNat / 16, by omega⟩
    have h2 := v_digit ⟨a.toNat % 16, by omega⟩
    simp only at h1 h2
    rw [Hx.encode_cons, Hx.decode_two, h1, h2, if_neg (by omega), if_neg (by omega), ih]
    have e : UInt8.ofNat (a.toNat / 16 * 16 + a.toNat % 16) = a := by
      rw [show a.toNat / 16 * 16 + a.toNat % 16 = a.toNat by omega]
      simp
    rw [e]

/-- Each byte of the text is one of 0-9, a-f. -/
theorem encode_lower : ∀ (l : List UInt8) (c : UInt8), c ∈ Hx.encode l → (48 ≤ c.toNat ∧ c.toNat ≤ 57) ∨ (97 ≤ c.toNat ∧ c.toNat ≤ 102) := by
  intro l
  induction l with
  | nil => intro c hc; cases hc
  | cons a t ih =>
    intro c hc
    have ha : a.toNat < 256 := a.toNat_lt
    rw [Hx.encode_cons] at hc
    rcases List.mem_cons.1 hc with rfl | hc
    · exact digit_lower ⟨a.toNat / 16, by omega⟩
    · rcases List.mem_cons.1 hc with rfl | hc
      · exact digit_lower ⟨a.toNat % 16, by omega⟩
      · exact ih c hc
end Hexy
