/- Plain texts: code points below 256, their bytes, and how they are read again. -/
import Derived.Test.YtcncniomjkjamaaDoorRows
import Derived.WalkKit
import Derived.Lib.RuneCount
import Derived.Shelf.Strings.MapAny
namespace Go.Proofs.YtcncniomjkjamaaDoor

/-- The bytes of a code point below 256. -/
def u8s (y : Int) : List UInt8 := if y < 128 then [UInt8.ofNat y.toNat] else [UInt8.ofNat (192 + y.toNat / 64), UInt8.ofNat (128 + y.toNat % 64)]
def txt (ys : List Int) : List UInt8 := ys.flatMap u8s

theorem encode_u8s (y : Int) (h0 : 0 ≤ y) (h1 : y < 256) : Utf8.encode y = ⟨(u8s y).toArray⟩ := by
  have hv : Utf8.valid y = true := by simp [Utf8.valid]; omega
  unfold Utf8.encode u8s
  simp only [hv, if_true]
  by_cases h : y < 128
  · rw [if_pos h, if_pos (by omega)]
  · rw [if_neg h, if_neg (by omega), if_pos (by omega)]

theorem u8s_length (y : Int) : 1 ≤ (u8s y).length ∧ (u8s y).length ≤ 2 := by
  unfold u8s
  split <;> simp

theorem txt_length (ys : List Int) : ys.length ≤ (txt ys).length ∧ (txt ys).length ≤ 2 * ys.length := by
  induction ys with
  | nil => simp [txt]
  | cons y r ih =>
    have := u8s_length y
    show _ ≤ (u8s y ++ txt r).length ∧ (u8s y ++ txt r).length ≤ _
    rw [List.length_append, List.length_cons]
    omega

theorem txt_take (ys : List Int) (k : Nat) (h : k < ys.length) : txt (ys.take (k + 1)) = txt (ys.take k) ++ u8s (ys.getD k 0) := by
  rw [List.take_succ_eq_append_getElem h]
  unfold txt
  rw [List.flatMap_append]
  simp [h]

theorem txt_split (ys : List Int) (k : Nat) (h : k < ys.length) : txt ys = txt (ys.take k) ++ (u8s (ys.getD k 0) ++ txt (ys.drop (k + 1))) := by
  have e : ys = ys.take k ++ (ys.getD k 0 :: ys.drop (k + 1)) := by
    have h1 : ys.drop k = ys.getD k 0 :: ys.drop (k + 1) := by
      rw [List.drop_eq_getElem_cons h]
      simp [h]
    rw [← h1, List.take_append_drop]
  rw [show txt ys = txt (ys.take k ++ (ys.getD k 0 :: ys.drop (k + 1))) from congrArg txt e]
  unfold txt
  rw [List.flatMap_append]
  rfl

theorem get_at (pre : List UInt8) (a : UInt8) (r : List UInt8) : (⟨(pre ++ a :: r).toArray⟩ : ByteArray).get! (pre.length + 0) = a := by
  show ((pre ++ a :: r).toArray)[pre.length + 0]! = a
  simp
theorem get_next (pre : List UInt8) (a b : UInt8) (r : List UInt8) : (⟨(pre ++ a :: b :: r).toArray⟩ : ByteArray).get! (pre.length + 1) = b := by
  show ((pre ++ a :: b :: r).toArray)[pre.length + 1]! = b
  simp

theorem decode_at (pre r : List UInt8) (y : Int) (h0 : 0 ≤ y) (h1 : y < 256) : Utf8.decode ⟨(pre ++ (u8s y ++ r)).toArray⟩ pre.length = (y.toNat, (u8s y).length) := by
  obtain ⟨n, rfl⟩ := Int.eq_ofNat_of_zero_le h0
  have hn : n < 256 := by omega
  unfold u8s
  by_cases h : (n : Int) < 128
  · rw [if_pos h]
    unfold Utf8.decode
    simp only [List.singleton_append, get_at, Int.toNat_natCast]
    have e : (UInt8.ofNat n).toNat = n := by simp; omega
    rw [e, if_pos (by omega)]
    rfl
  · rw [if_neg h]
    unfold Utf8.decode
    simp only [List.cons_append, List.nil_append, get_at, get_next, Int.toNat_natCast]
    have e1 : (UInt8.ofNat (192 + n / 64)).toNat = 192 + n / 64 := by simp; omega
    have e2 : (UInt8.ofNat (128 + n % 64)).toNat = 128 + n % 64 := by simp; omega
    rw [e1, e2, if_neg (by omega)]
    have hs : pre.length + 1 < (⟨(pre ++ UInt8.ofNat (192 + n / 64) :: UInt8.ofNat (128 + n % 64) :: r).toArray⟩ : ByteArray).size := by simp [ByteArray.size]
    have hc : ((192 + n / 64) / 32 == 6 && (decide (pre.length + 1 < (⟨(pre ++ UInt8.ofNat (192 + n / 64) :: UInt8.ofNat (128 + n % 64) :: r).toArray⟩ : ByteArray).size) && (128 + n % 64) / 64 == 2)) = true := by
      rw [decide_eq_true hs]
      simp
      omega
    rw [if_pos hc, if_pos (by omega)]
    simp
    omega

theorem count_from (s : ByteArray) : ∀ (ys : List Int) (pre : List UInt8) (fuel : Nat), (∀ y ∈ ys, 0 ≤ y ∧ y < 256) → s = ⟨(pre ++ txt ys).toArray⟩ → ys.length ≤ fuel → Lib.runeCountFrom s fuel pre.length = ys.length := by
  intro ys
  induction ys with
  | nil =>
    intro pre fuel _ hs _
    rw [Lib.runeCountFrom_end]
    · rfl
    · rw [hs]; simp [ByteArray.size, txt]
  | cons y r ih =>
    intro pre fuel hy hs hf
    obtain ⟨f, rfl⟩ : ∃ f, fuel = f + 1 := ⟨fuel - 1, by simp at hf; omega⟩
    have hb := hy y (by simp)
    have hl := u8s_length y
    have e : txt (y :: r) = u8s y ++ txt r := rfl
    rw [e] at hs
    rw [Lib.runeCountFrom, if_pos (by rw [hs]; simp [ByteArray.size]; omega), hs, decode_at pre (txt r) y hb.1 hb.2, ← hs]
    have := ih (pre ++ u8s y) f (fun z hz => hy z (by simp [hz])) (by rw [hs, List.append_assoc]) (by simp at hf; omega)
    rw [List.length_append] at this
    simp only [this, List.length_cons]
    omega

theorem count_txt (ys : List Int) (hy : ∀ y ∈ ys, 0 ≤ y ∧ y < 256) : Lib.runeCount ⟨(txt ys).toArray⟩ = ys.length := by
  have := count_from ⟨(txt ys).toArray⟩ ys [] (⟨(txt ys).toArray⟩ : ByteArray).size hy (by rw [List.nil_append]) (by simp [ByteArray.size]; exact (txt_length ys).1)
  exact this

theorem read_at (ys : List Int) (k : Nat) (h : k < ys.length) (hy : ∀ y ∈ ys, 0 ≤ y ∧ y < 256) (s : ByteArray) (hs : s = ⟨(txt ys).toArray⟩) :
    (txt (ys.take k)).length < s.size ∧ Lib.decodeGo (s.extract (txt (ys.take k)).length s.size) = ((ys.getD k 0).toNat, (u8s (ys.getD k 0)).length) ∧ (txt (ys.take k)).length + (u8s (ys.getD k 0)).length = (txt (ys.take (k + 1))).length := by
  have hg : ys.getD k 0 ∈ ys := by
    have : ys.getD k 0 = ys[k] := by simp [h]
    rw [this]
    exact List.getElem_mem h
  have hb := hy _ hg
  have hl := u8s_length (ys.getD k 0)
  have hsp := txt_split ys k h
  have hlt : (txt (ys.take k)).length < s.size := by
    rw [hs]
    show _ < (txt ys).toArray.size
    rw [hsp, List.size_toArray, List.length_append, List.length_append]
    omega
  refine ⟨hlt, ?_, by rw [txt_take ys k h, List.length_append]⟩
  rw [Lib.decodeGo_extract s _ hlt, hs, hsp, decode_at _ _ _ hb.1 hb.2]
end Go.Proofs.YtcncniomjkjamaaDoor
