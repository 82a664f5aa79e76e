/- Plain numbers: how many groups of seven bits a number has. -/
import Derived.Test.YtcncniomjkjamaaW3
namespace Go.Proofs.Ytcncniomjkjamaa

theorem enc_len_mono (f : Nat) : ∀ q r : Int, q / 2 ≤ r / 2 → (enc f q).length ≤ (enc f r).length := by
  induction f with
  | zero => intro q r _; simp [enc]
  | succ f ih =>
    intro q r h
    by_cases hq : q < 128
    · rw [enc_small _ _ hq]
      exact (enc_length (f + 1) r).1
    · by_cases hr : r < 128
      · omega
      · rw [enc_big _ _ (by omega), enc_big _ _ (by omega), List.length_cons, List.length_cons]
        have := ih (q / 128) (r / 128) (by omega)
        omega

theorem enc_len_one (q : Int) : (enc 9 q).length = 1 ↔ q < 128 := by
  constructor
  · intro h
    by_cases hq : q < 128
    · exact hq
    · rw [enc_big 8 _ (by omega), List.length_cons] at h
      have := (enc_length 8 (q / 128)).1
      omega
  · intro h
    rw [enc_small _ _ h]
    rfl

/-- All bytes but the last one have the eighth bit set. -/
theorem enc_marks (f : Nat) : ∀ q : Int, 0 ≤ q → q < 128 ^ (f + 1) → ∀ i, i < (enc f q).length → (if i + 1 < (enc f q).length then 128 ≤ (enc f q).getD i 0 else (enc f q).getD i 0 < 128) ∧ 0 ≤ (enc f q).getD i 0 ∧ (enc f q).getD i 0 < 256 := by
  induction f with
  | zero =>
    intro q h0 h1 i hi
    simp [enc] at hi ⊢
    subst hi
    simp at h1 ⊢
    omega
  | succ f ih =>
    intro q h0 h1 i hi
    by_cases hq : q < 128
    · rw [enc_small _ _ hq] at hi ⊢
      simp at hi ⊢
      subst hi
      simp
      omega
    · rw [enc_big _ _ (by omega)] at hi ⊢
      have hl := (enc_length f (q / 128)).1
      cases i with
      | zero =>
        simp only [List.length_cons, List.getD_cons_zero]
        rw [if_pos (by omega)]
        omega
      | succ i =>
        have hp : (128 : Int) ^ (f + 1 + 1) = 128 ^ (f + 1) * 128 := Int.pow_succ ..
        have := ih (q / 128) (by omega) (by omega) i (by simpa using hi)
        simpa using this

theorem zz_half (n : Int) : zz n / 2 = max n (-1 - n) := by
  unfold zz
  split <;> omega

theorem zz_lt128 (n : Int) : zz n < 128 ↔ -64 ≤ n ∧ n < 64 := by
  unfold zz
  split <;> omega
end Go.Proofs.Ytcncniomjkjamaa
