/- encodeInt, whichever writer it writes to: groups of seven bits. -/
import Derived.Test.YtcncniomjkjamaaW1
import Derived.Outline
namespace Go.Proofs.Ytcncniomjkjamaa
open Go.RowKit

/-- A number in groups of seven bits, the lowest ones first, in at most f + 1 bytes. -/
def enc : Nat → Int → List Int
  | 0, x => [x]
  | f + 1, x => if x < 128 then [x] else (x % 128 + 128) :: enc f (x / 128)

theorem enc_small (f : Nat) (x : Int) (h : x < 128) : enc f x = [x] := by
  cases f with
  | zero => rfl
  | succ f => rw [enc, if_pos h]

theorem enc_big (f : Nat) (x : Int) (h : 128 ≤ x) : enc (f + 1) x = (x % 128 + 128) :: enc f (x / 128) := by rw [enc, if_neg (by omega)]

theorem enc_length (f : Nat) : ∀ x : Int, 1 ≤ (enc f x).length ∧ (enc f x).length ≤ f + 1 := by
  induction f with
  | zero => intro x; simp [enc]
  | succ f ih =>
    intro x
    by_cases h : x < 128
    · rw [enc_small _ _ h]; simp
    · rw [enc_big _ _ (by omega)]
      have := ih (x / 128)
      simp only [List.length_cons]
      omega

/-- In the middle of the work: 'pre' stands, z is still to come. -/
def Mid (x : Int) (z : Int) (pre : List Int) : Prop := ∃ f : Nat, 0 ≤ z ∧ z < 128 ^ (f + 1) ∧ pre.length + f ≤ 9 ∧ pre ++ enc f z = enc 9 x

theorem mid_start (x : Int) (h : 0 ≤ x) (h2 : x < 2 ^ 64) : Mid x x [] := ⟨9, h, by omega, by simp, rfl⟩

theorem mid_next {x z : Int} {pre : List Int} (h : Mid x z pre) (hz : 128 ≤ z) : Mid x (z / 128) (pre ++ [z % 128 + 128]) := by
  obtain ⟨f, h0, h1, h2, h3⟩ := h
  cases f with
  | zero => simp at h1; omega
  | succ f =>
    refine ⟨f, by omega, ?_, by simp; omega, ?_⟩
    · have : (128 : Int) ^ (f + 1 + 1) = 128 ^ (f + 1) * 128 := Int.pow_succ ..
      omega
    · rw [enc_big _ _ hz] at h3
      rw [← h3, List.append_assoc]
      rfl

theorem mid_end {x z : Int} {pre : List Int} (h : Mid x z pre) (hz : z < 128) : pre ++ [z] = enc 9 x := by
  obtain ⟨f, _, _, _, h3⟩ := h
  rw [enc_small _ _ hz] at h3
  exact h3

theorem mid_length {x z : Int} {pre : List Int} (h : Mid x z pre) : pre.length ≤ 9 := by
  obtain ⟨f, _, _, h2, _⟩ := h
  omega

theorem and127 (z : Int) (h : 0 ≤ z) (h2 : z < 2 ^ 64) : bits .and .u64 z 127 % 256 = z % 128 := by
  rw [u64_and z 127 h (by omega) (by omega) (by omega)]
  rw [show (127 : Int).toNat = 127 from rfl, nat_mask7]
  omega

theorem or128 (a : Int) (h : 0 ≤ a) (h2 : a < 256) : bits .or .u8 a 128 = a % 128 + 128 := by
  obtain ⟨n, rfl⟩ := Int.eq_ofNat_of_zero_le h
  have hn : n < 256 := by omega
  have : ∀ m : Fin 256, m.val ||| 128 = m.val % 128 + 128 := by decide +kernel
  have e := this ⟨n, hn⟩
  simp only at e
  rw [u8_or (n : Int) 128 h h2 (by omega) (by omega), show (128 : Int).toNat = 128 from rfl, Int.toNat_natCast, e]
  omega

def Done (b : Nat) (xs : List Int) (x z : Int) (wr : World) : Prop := (z = 0 ∧ Wr b (xs ++ enc 9 x) wr) ∨ (0 < z ∧ ∃ pre, Mid x z pre ∧ Wr b (xs ++ pre) wr)

set_option maxHeartbeats 400000 in
theorem encIntFast (b n : Nat) (x : Int) (xs : List Int) (w : World) (hw : Wr b xs w) (hx : 0 ≤ x) (hx2 : x < 2 ^ 64) (hm : xs.length + 10 ≤ 4096) :
    Calls Try.prog 44 #[.iface 69 (.pointer (some ⟨b, 0, none⟩)), .int .i64 n, .int .u64 x] w (Wrote b (xs ++ enc 9 x) .nilIface w) := by
  have hl1 : xs.length + 1 ≤ 4096 := by omega
  by_cases h0 : x = 0
  · subst h0
    go_enter Try.func44, Try.ntmps44
    go_wp2_with (first | (go_at_call 65; refine (grow _ _ _).mono ?_; rintro e w' ⟨rfl, rfl⟩) | (go_at_call 66; refine (bufByte b _ _ _ hw hl1).mono ?_; rintro e w1 ⟨rfl, hw1, hb1⟩))
    go_ret
    exact ⟨rfl, by rw [enc_small 9 0 (by omega)]; exact hw1, hb1⟩
  · have hpos : 0 < x := by omega
    have hne : (x == 0) = false := by simpa using h0
    clear h0
    go_enter Try.func44, Try.ntmps44
    go_wp2_with (go_at_call 65; refine (grow _ _ _).mono ?_; rintro e w' ⟨rfl, rfl⟩)
    go_loopw [2, 7] (fun y e wr => ∃ z : Int, 0 ≤ z ∧ z < 2 ^ 64 ∧ y = .int .u64 z ∧ e = .nilIface ∧ Done b xs x z wr ∧ Below b w wr) (fun y _ _ => (intOf y).toNat)
    case atStart => exact ⟨x, by omega, hx2, rfl, rfl, .inr ⟨hpos, [], mid_start x hx hx2, by rw [List.append_nil]; exact hw⟩, Below.refl _ _⟩
    case round =>
      obtain ⟨z, hz1, hz2, rfl, rfl, hd, hbl⟩ := hrel
      rcases hd with ⟨rfl, hwd⟩ | ⟨hzp, pre, hmid, hwr⟩
      · go_wp2_with fail
        go_ret
        exact ⟨rfl, hwd, hbl⟩
      · have hbound : (xs ++ pre).length + 1 ≤ 4096 := by rw [List.length_append]; have := mid_length hmid; omega
        by_cases hlt : z < 128
        · have hq : (z / 128 == 0) = true := by rw [beq_iff_eq]; omega
          go_wp2_with (go_at_call 66; refine (bufByte b _ _ _ hwr hbound).mono ?_; rintro e w1 ⟨rfl, hw1, hb1⟩)
          go_roundw
          case rel =>
            refine ⟨z / 128, by omega, by omega, rfl, rfl, .inl ⟨by omega, ?_⟩, hbl.trans hb1⟩
            rw [and127 z hz1 hz2, List.append_assoc, show z % 128 = z from by omega, mid_end hmid hlt] at hw1
            exact hw1
          case measure => simp [intOf]; omega
        · have hq : (z / 128 == 0) = false := by rw [beq_eq_false_iff_ne]; omega
          go_wp2_with (go_at_call 66; refine (bufByte b _ _ _ hwr hbound).mono ?_; rintro e w1 ⟨rfl, hw1, hb1⟩)
          go_roundw
          case rel =>
            refine ⟨z / 128, by omega, by omega, rfl, rfl, .inr ⟨by omega, pre ++ [z % 128 + 128], mid_next hmid (by omega), ?_⟩, hbl.trans hb1⟩
            rw [and127 z hz1 hz2, or128 _ (by omega) (by omega), List.append_assoc, show z % 128 % 128 = z % 128 from by omega] at hw1
            exact hw1
          case measure => simp [intOf]; omega

def DoneV (B : Nat) (x z : Int) (v : Value) (wr : World) : Prop := (z = 0 ∧ wr.ownsRow B 5 1 v (enc 9 x).length (vals (enc 9 x))) ∨ (0 < z ∧ ∃ pre, Mid x z pre ∧ wr.ownsRow B 5 1 v pre.length (vals pre))

set_option maxHeartbeats 800000 in
theorem encIntSlow (b n : Nat) (x : Int) (xs : List Int) (w : World) (hw : Wr b xs w) (hx : 0 ≤ x) (hx2 : x < 2 ^ 64) (hn : n ≤ 10) (hm : xs.length + 10 ≤ 4096) :
    Calls Try.prog 44 #[.iface 66 (.pointer (some ⟨b, 0, none⟩)), .int .i64 n, .int .u64 x] w (Wrote b (xs ++ enc 9 x) .nilIface w) := by
  obtain ⟨i0, hi, hz0, hz1, hz2⟩ := info_parts info5
  have hmk : i0.bytes * n ≤ 281474976710656 := by rw [hz2]; omega
  have hml : n ≤ maxLen := by unfold maxLen; omega
  have hlast : xs.length + (enc 9 x).length ≤ 4096 := by have := enc_length 9 x; omega
  by_cases h0 : x = 0
  · subst h0
    go_enter Try.func44, Try.ntmps44
    have h63 : 0 + 1 ≤ maxLen := by unfold maxLen; omega
    have H1 := Lib.hid (vals_one [0])
    have he : xs.length + [(0 : Int)].length ≤ 4096 := by simp; omega
    go_wp2_with (first
      | (refine wpList_make_own _ rfl _ _ 29 rfl w.heap.size 5 i0 (.int .u8 0) 1 Try.underlying29 hi hz0 hz1 .i64 .i64 (n : Int) n rfl rfl rfl hmk hml (Nat.le_refl _) ?_; intro w1 hown1 hg1)
      | (at_builtin; refine wpList_append_own _ rfl _ _ 29 rfl w.heap.size 5 i0 (.int .u8 0) 1 1 Try.underlying29 hi hz0 hz1 hz2 rfl (by decide) _ 0 [] rfl (hown1.alloc _) ⟨w1.heap.size, 0, none⟩ 1 1 [.int .u8 0] rfl rfl (cell_one_new _ _ _) H1.out h63 (by decide) (by have := hg1.size; simp; omega) ?_; intro v2 w2 hown2 hg2 _)
      | fail)
    have hb1 : Below w.heap.size w w2 := (((Below.refl _ _).grown hg1 (Nat.le_refl _) (fun k h => by cases h)).alloc hg1.size _).grown hg2 (by have := hg1.size; simp; omega) (own_lt hown1)
    have hsrc : Src v2 [0] w2 := own_src hown2
    have hwr := hw.below hb1
    refine (plainWrite b xs [0] _ _ hwr hsrc he).mono ?_
    rintro e w3 ⟨rfl, hw3, hb3⟩
    go_wp2_with fail
    go_ret
    exact ⟨rfl, by rw [enc_small 9 0 (by omega)]; exact hw3, (hb1.mono (by have := hw.1; omega)).trans hb3⟩
  · have hpos : 0 < x := by omega
    have hne : (x == 0) = false := by simpa using h0
    clear h0
    go_enter Try.func44, Try.ntmps44
    go_wp2_with (refine wpList_make_own _ rfl _ _ 29 rfl w.heap.size 5 i0 (.int .u8 0) 1 Try.underlying29 hi hz0 hz1 .i64 .i64 (n : Int) n rfl rfl rfl hmk hml (Nat.le_refl _) ?_; intro w1 hown1 hg1)
    have hb1 : Below w.heap.size w w1 := (Below.refl _ _).grown hg1 (Nat.le_refl _) (fun k h => by cases h)
    clear hmk hml hg1
    go_loopw [2, 8] (fun y v wr => ∃ z : Int, 0 ≤ z ∧ z < 2 ^ 64 ∧ y = .int .u64 z ∧ DoneV w.heap.size x z v wr ∧ Below w.heap.size w wr) (fun y _ _ => (intOf y).toNat)
    case atStart => exact ⟨x, by omega, hx2, rfl, .inr ⟨hpos, [], mid_start x hx hx2, hown1⟩, hb1⟩
    case round =>
      obtain ⟨z, hz1', hz2', rfl, hd, hbl⟩ := hrel
      rcases hd with ⟨rfl, hwd⟩ | ⟨hzp, pre, hmid, hown⟩
      · have hsrc := own_src hwd
        have hwr := hw.below hbl
        go_wp2_with (go_at_call 64; refine (plainWrite b xs (enc 9 x) _ _ hwr hsrc hlast).mono ?_; rintro e w2 ⟨rfl, hw2, hb2⟩)
        go_ret
        exact ⟨rfl, hw2, (hbl.mono (by have := hw.1; omega)).trans hb2⟩
      · have h63 : pre.length + 1 ≤ maxLen := by have := mid_length hmid; unfold maxLen; omega
        have h47 : (pre.length + 1) * 1 ≤ 140737488355328 := by have := mid_length hmid; omega
        have hbs := hbl.size
        have H1 := Lib.hid (vals_one [bits .and .u64 z 127 % 256])
        have H2 := Lib.hid (vals_one [bits .or .u8 (bits .and .u64 z 127 % 256) 128])
        by_cases hlt : z < 128
        · have hq : (z / 128 == 0) = true := by rw [beq_iff_eq]; omega
          go_wp2_with (at_builtin; refine wpList_append_own _ rfl _ _ 29 rfl w.heap.size 5 i0 (.int .u8 0) 1 1 Try.underlying29 hi hz0 hz1 hz2 rfl (by decide) _ pre.length (vals pre) rfl (hown.alloc _) ⟨wr.heap.size, 0, none⟩ 1 1 [.int .u8 (bits .and .u64 z 127 % 256)] rfl rfl (cell_one_new _ _ _) H1.out h63 h47 (by simp; omega) ?_; intro v2 w2 hown2 hg2 _)
          go_roundw
          case rel =>
            refine ⟨z / 128, by omega, by omega, rfl, .inl ⟨by omega, ?_⟩, (hbl.alloc hbs _).grown hg2 (by simp; omega) (own_lt hown)⟩
            rw [and127 z hz1' hz2', show z % 128 = z from by omega] at hown2
            rw [← mid_end hmid hlt, vals_append, List.length_append]
            exact hown2
          case measure => simp [intOf]; omega
        · have hq : (z / 128 == 0) = false := by rw [beq_eq_false_iff_ne]; omega
          go_wp2_with (at_builtin; refine wpList_append_own _ rfl _ _ 29 rfl w.heap.size 5 i0 (.int .u8 0) 1 1 Try.underlying29 hi hz0 hz1 hz2 rfl (by decide) _ pre.length (vals pre) rfl (hown.alloc _) ⟨wr.heap.size, 0, none⟩ 1 1 [.int .u8 (bits .or .u8 (bits .and .u64 z 127 % 256) 128)] rfl rfl (cell_one_new _ _ _) H2.out h63 h47 (by simp; omega) ?_; intro v2 w2 hown2 hg2 _)
          go_roundw
          case rel =>
            refine ⟨z / 128, by omega, by omega, rfl, .inr ⟨by omega, pre ++ [z % 128 + 128], mid_next hmid (by omega), ?_⟩, (hbl.alloc hbs _).grown hg2 (by simp; omega) (own_lt hown)⟩
            rw [and127 z hz1' hz2', or128 _ (by omega) (by omega), show z % 128 % 128 = z % 128 from by omega] at hown2
            rw [vals_append, List.length_append]
            exact hown2
          case measure => simp [intOf]; omega
end Go.Proofs.Ytcncniomjkjamaa
