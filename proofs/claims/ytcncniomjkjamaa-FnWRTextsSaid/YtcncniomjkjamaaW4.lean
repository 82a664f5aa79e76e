/- The reference's functions, and bytes.Equal. -/
import Derived.Test.YtcncniomjkjamaaW3
import Derived.Laws.BytesArg
namespace Go.Proofs.Ytcncniomjkjamaa
open Go.RowKit

theorem conv_src (sv : Value) (ys : List Int) (w : World) (h : Src sv ys w) : (convert 29 9 sv).run Try.prog w = .ok (.string (strOfNums ys)) w := by
  rcases h with ⟨rfl, rfl⟩ | ⟨ad, c, rfl, hc⟩
  · exact run_convert_bytes_nil w 29 5 Try.underlying29 Try.underlying5 0 0 9 Try.underlying9
  · have hl := run_loadCells_list (P := Try.prog) w ad (vals ys) hc
    rw [vals_length] at hl
    rw [run_convert_bytes_string w 29 9 5 _ ys.length c Try.underlying29 Try.underlying5 Try.underlying9, run_bytesToString w _ ys.length c ys hl, foldl_push_bytes]
    simp [strOfNums, ByteArray.empty, ByteArray.emptyWithCapacity]
    rfl

set_option maxHeartbeats 400000 in
theorem equal (a b : Value) (ys : List Int) (w : World) (ha : Src a ys w) (hb : Src b ys w) :
    Calls Try.prog 11 #[a, b] w fun e w' => e = .returned (.bool true) ∧ w = w' := by
  have h1 := conv_src a ys w ha
  have h2 := conv_src b ys w hb
  go_enter Try.func11, Try.ntmps11
  go_wp2
  go_ret
  exact ⟨rfl, rfl⟩

theorem pow256 (x : Int) (k : Nat) : x / 2 ^ (8 * k) = x / 256 ^ k := by
  have : ((2 : Int) ^ 8) ^ k = 2 ^ (8 * k) := (Int.pow_mul ..).symm
  rw [← this]
  rfl

set_option maxHeartbeats 400000 in
theorem wrBits (x : Int) (n : Nat) (w : World) (_h1 : 0 ≤ x) (_h2 : x < 2 ^ 64) (hn : n ≤ 8) :
    Calls Try.prog 13 #[.int .u64 x, .int .i64 n] w (WRes (fb x n) w) := by
  obtain ⟨i0, hi, hz0, hz1, hz2⟩ := info_parts info5
  go_enter Try.func13, Try.ntmps13
  go_wp2_with fail
  go_loopw [5, 8] (fun v i wr => ∃ k : Nat, k ≤ n ∧ i = .int .i64 k ∧ wr.ownsRow w.heap.size 5 1 v (fb x k).length (vals (fb x k)) ∧ Below w.heap.size w wr) (fun _ i _ => n - (intOf i).toNat)
  case atStart => exact ⟨0, by omega, rfl, World.ownsRow_nil _ _ _ _, Below.refl _ _⟩
  case round =>
    obtain ⟨k, hk, rfl, hown, hbl⟩ := hrel
    have hbs := hbl.size
    by_cases hlt : k < n
    · have h63 : (fb x k).length + 1 ≤ maxLen := by rw [fb_length]; unfold maxLen; omega
      have h47 : ((fb x k).length + 1) * 1 ≤ 140737488355328 := by rw [fb_length]; omega
      have H1 := Lib.hid (vals_one [x / 2 ^ (8 * k) % 256])
      go_wp2_with (at_builtin; refine wpList_append_own _ rfl _ _ 29 rfl w.heap.size 5 i0 (.int .u8 0) 1 1 Try.underlying29 hi hz0 hz1 hz2 rfl (by decide) _ (fb x k).length (vals (fb x k)) rfl (hown.alloc _) ⟨wr.heap.size, 0, none⟩ 1 1 [.int .u8 (x / 2 ^ (8 * k) % 256)] rfl rfl (cell_one_new _ _ _) H1.out h63 h47 (by simp; omega) ?_; intro v2 w2 hown2 hg2 _)
      go_roundw
      case rel =>
        refine ⟨k + 1, by omega, by go_num, ?_, (hbl.alloc hbs _).grown hg2 (by simp; omega) (own_lt hown)⟩
        rw [pow256] at hown2
        rw [fb_succ, vals_append, List.length_append]
        exact hown2
      case measure => simp [intOf]; omega
    · have hkn : k = n := by omega
      subst hkn
      go_wp2_with fail
      go_ret
      exact ⟨_, rfl, hown, hbl⟩

theorem zz_neg (x : Int) (h1 : -9223372036854775808 ≤ x) (h2 : x < 0) : bits .xor .u64 IntKind.u64.max (IntKind.u64.wrap (IntKind.u64.wrap x * 2)) = zz x := by
  have hm : IntKind.u64.max = 18446744073709551615 := by decide
  unfold zz
  rw [if_pos h2, hm, wrap_u64, wrap_u64, u64_xor _ _ (by omega) (by omega) (by omega) (by omega)]
  have h : ∀ n : Nat, n < 18446744073709551616 → 18446744073709551615 ^^^ n = 18446744073709551615 - n := by
    intro n hn
    have h1 := BitVec.allOnes_xor (x := BitVec.ofNat 64 n)
    have h2 := congrArg BitVec.toNat h1
    rw [BitVec.toNat_xor, BitVec.toNat_not, BitVec.toNat_ofNat, BitVec.toNat_allOnes, Nat.mod_eq_of_lt (by omega)] at h2
    exact h2
  rw [show (18446744073709551615 : Int).toNat = 18446744073709551615 from rfl, h _ (by omega)]
  omega

theorem zz_pos (x : Int) (h : 0 ≤ x) : x * 2 = zz x := by
  unfold zz
  rw [if_neg (by omega)]
  omega

def MidV (B : Nat) (x z : Int) (v : Value) (wr : World) : Prop := ∃ pre, Mid x z pre ∧ wr.ownsRow B 5 1 v pre.length (vals pre)

set_option maxHeartbeats 800000 in
theorem specLong (x : Int) (w : World) (h1 : -9223372036854775808 ≤ x) (h2 : x ≤ 9223372036854775807) :
    Calls Try.prog 19 #[.int .i64 x] w (WRes (enc 9 (zz x)) w) := by
  obtain ⟨i0, hi, hz0, hz1, hz2⟩ := info_parts info5
  have hzb := zz_bounds x h1 h2
  by_cases hx : x < 0
  all_goals
    go_enter Try.func19, Try.ntmps19
    go_wp2_with fail
    first | rw [zz_neg x h1 hx] | rw [zz_pos x (by omega)]
    generalize hq : zz x = q at hzb ⊢
    have HQ := Lib.hid hq
    clear hq
    go_loopw [3, 4] (fun y v wr => ∃ z : Int, 0 ≤ z ∧ z < 2 ^ 64 ∧ y = .int .u64 z ∧ MidV w.heap.size q z v wr ∧ Below w.heap.size w wr) (fun y _ _ => (intOf y).toNat)
    case atStart => exact ⟨q, hzb.1, hzb.2, rfl, ⟨[], mid_start q hzb.1 hzb.2, World.ownsRow_nil _ _ _ _⟩, Below.refl _ _⟩
    case round =>
      obtain ⟨z, hz1', hz2', rfl, ⟨pre, hmid, hown⟩, hbl⟩ := hrel
      have hbs := hbl.size
      have h63 : pre.length + 1 ≤ maxLen := by have := mid_length hmid; unfold maxLen; omega
      have h47 : (pre.length + 1) * 1 ≤ 140737488355328 := by have := mid_length hmid; omega
      have H1 := Lib.hid (vals_one [z])
      have H2 := Lib.hid (vals_one [bits .or .u8 (z % 256) 128])
      by_cases hlt : z < 128
      · go_wp2_with (at_builtin; refine wpList_append_own _ rfl _ _ 29 rfl w.heap.size 5 i0 (.int .u8 0) 1 1 Try.underlying29 hi hz0 hz1 hz2 rfl (by decide) _ pre.length (vals pre) rfl (hown.alloc _) ⟨wr.heap.size, 0, none⟩ 1 1 [.int .u8 z] rfl rfl (cell_one_new _ _ _) H1.out h63 h47 (by simp; omega) ?_; intro v2 w2 hown2 hg2 _)
        go_ret
        refine ⟨v2, rfl, ?_, (hbl.alloc hbs _).grown hg2 (by simp; omega) (own_lt hown)⟩
        rw [HQ.out, ← mid_end hmid hlt, vals_append, List.length_append]
        exact hown2
      · go_wp2_with (at_builtin; refine wpList_append_own _ rfl _ _ 29 rfl w.heap.size 5 i0 (.int .u8 0) 1 1 Try.underlying29 hi hz0 hz1 hz2 rfl (by decide) _ pre.length (vals pre) rfl (hown.alloc _) ⟨wr.heap.size, 0, none⟩ 1 1 [.int .u8 (bits .or .u8 (z % 256) 128)] rfl rfl (cell_one_new _ _ _) H2.out h63 h47 (by simp; omega) ?_; intro v2 w2 hown2 hg2 _)
        go_roundw
        case rel =>
          refine ⟨z / 128, by omega, by omega, rfl, ⟨pre ++ [z % 128 + 128], mid_next hmid (by omega), ?_⟩, (hbl.alloc hbs _).grown hg2 (by simp; omega) (own_lt hown)⟩
          rw [or128 _ (by omega) (by omega), show z % 256 % 128 = z % 128 from by omega] at hown2
          rw [vals_append, List.length_append]
          exact hown2
        case measure => simp [intOf]; omega

theorem own_src_after {w1 w2 : World} {base : Nat} {v : Value} {n : Nat} {ys : List Int} (h : w1.ownsRow base 5 1 v n (vals ys)) (hb : Below w1.heap.size w1 w2) : Src v ys w2 := own_src (own_below h hb (Nat.le_refl _))
end Go.Proofs.Ytcncniomjkjamaa
