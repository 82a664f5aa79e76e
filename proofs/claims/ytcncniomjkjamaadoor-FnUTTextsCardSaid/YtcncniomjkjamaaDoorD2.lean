/- EncodeByteString over the builder. -/
import Derived.Test.YtcncniomjkjamaaDoorD1
namespace Go.Proofs.YtcncniomjkjamaaDoor
open Go.RowKit

theorem fresh (w : World) : Lib.IsBuilder 30 5 w.heap.size w.heap.size [] (w.alloc (.cells #[.pointer none, .slice none 0 0] 30)) :=
  .inl ⟨Nat.le_refl _, .slice none 0 0, by show (w.heap.push _)[w.heap.size]? = _; simp, World.ownsRow_nil _ _ _ _, by simp [Value.ownBlock]⟩

/-- What the builder holds when k bytes have been escaped. -/
def half (ys : List Int) (k : Nat) : List UInt8 := 34 :: escs (ys.take k)

theorem half_length (ys : List Int) (k : Nat) (h : k ≤ ys.length) : (half ys k).length = 6 * k + 1 := by
  unfold half
  rw [List.length_cons, escs_length, List.length_take]
  omega

theorem half_succ (ys : List Int) (k : Nat) (h : k < ys.length) : half ys (k + 1) = half ys k ++ esc (ys.getD k 0) := by
  unfold half
  rw [escs_take ys k h]
  rfl

theorem half_end (ys : List Int) : half ys ys.length ++ [34] = quoted ys := by
  unfold half quoted
  rw [List.take_length]
  rfl

theorem quote_cells : Lib.byteCells [34] = [.int .u8 34] := rfl
theorem str_cells (l : List UInt8) : Lib.strCells ⟨l.toArray⟩ = Lib.byteCells l := by
  unfold Lib.strCells Lib.byteCells
  rfl

theorem Row.slice {sv : Value} {ys : List Int} {w : World} (h : Row sv ys w) : ∃ oa c, sv = .slice oa ys.length c := by
  rcases h with ⟨rfl, rfl⟩ | ⟨ad, c, rfl, _⟩
  · exact ⟨_, _, rfl⟩
  · exact ⟨_, _, rfl⟩

theorem Row.at {oa : Option Addr} {n c : Nat} {ys : List Int} {w : World} (h : Row (.slice oa n c) ys w) (k : Nat) (hk : k < ys.length) : ∃ b o, oa = some ⟨b, o, none⟩ ∧ w.cell? ⟨b, o + k, none⟩ = some (.int .u8 (ys.getD k 0)) := by
  rcases h with ⟨_, rfl⟩ | ⟨ad, c', h1, h2⟩
  · simp at hk
  · simp only [Value.slice.injEq] at h1
    obtain ⟨b, o, e, _, hc⟩ := h2 k hk
    exact ⟨b, o, by rw [h1.1, e], hc⟩

theorem getD_mem {ys : List Int} {k : Nat} (h : k < ys.length) : ys.getD k 0 ∈ ys := by
  have : ys.getD k 0 = ys[k] := by simp [h]
  rw [this]
  exact List.getElem_mem h

/-- What holds at the head of a round. -/
def EncAt (w : World) (ys : List Int) (i : Value) (wr : World) : Prop :=
  ∃ k : Nat, k ≤ ys.length ∧ i = .int .i64 k ∧ Lib.IsBuilder 30 5 w.heap.size w.heap.size (Lib.byteCells (half ys k)) wr ∧ Below w.heap.size w wr

set_option maxRecDepth 100000 in
set_option maxHeartbeats 1000000 in
theorem encode (sv : Value) (ys : List Int) (w : World) (hs : Row sv ys w) (hy : ∀ y ∈ ys, 0 ≤ y ∧ y < 256) (hm : ys.length ≤ 100) :
    Calls Tryd.prog 9 #[sv] w fun e w' => e = .returned (.string ⟨(quoted ys).toArray⟩) ∧ Below w.heap.size w w' := by
  obtain ⟨oa, cp, rfl⟩ := hs.slice
  have HS := Lib.hid hs
  have HY := Lib.hid hy
  clear hs hy
  have hb0 : Below w.heap.size w (w.alloc (.cells #[.pointer none, .slice none 0 0] 30)) := (Below.refl _ _).alloc (Nat.le_refl _) _
  go_enter Tryd.func9, Tryd.ntmps9
  go_wp2_with fail
  refine (writeQuote w.heap.size w.heap.size [] _ (fresh w) (by decide) (by simp)).mono ?_
  rintro e w1 ⟨r, rfl, h1, b1⟩
  have hb1 := hb0.trans b1
  clear b1 hb0
  go_wp2_with fail
  go_loopw [9] (fun i wr => EncAt w ys i wr) (fun i _ => ys.length - (intOf i).toNat)
  case atStart => exact ⟨0, Nat.zero_le _, rfl, h1, hb1⟩
  case round =>
    obtain ⟨k, hk, rfl, hbd, hbl⟩ := hrel
    clear h1 hb1
    by_cases hlt : k < ys.length
    · obtain ⟨b, o, rfl, hc⟩ := (HS.out.below hbl).at k hlt
      obtain ⟨hy0, hy1⟩ := HY.out _ (getD_mem hlt)
      have hes := half_succ ys k hlt
      have HE := Lib.hid hes
      clear hes
      have hlen : (Lib.byteCells (half ys k)).length ≤ 601 := by rw [Lib.byteCells_length, half_length _ _ hk]; omega
      have HB := Lib.hid hbd
      have HL := Lib.hid hlen
      clear hbd hlen
      generalize ys.getD k 0 = y at hc hy0 hy1 HE
      obtain ⟨s4, hs4⟩ : ∃ s : ByteArray, s = ⟨#[48, 48, hexc (y / 16).toNat, hexc (y % 16).toNat]⟩ := ⟨_, rfl⟩
      obtain ⟨t, ht, ht2⟩ := cat ⟨#[92, 117]⟩ s4 (by rw [hs4]; simp [ByteArray.size])
      have htt : t = ⟨(esc y).toArray⟩ := by rw [ht2, hs4, esc_cat]
      have hts : t.size ≤ 6 := by rw [htt]; simp [ByteArray.size, esc]
      have HT := Lib.hid htt
      have HTS := Lib.hid hts
      have HS4 := Lib.hid hs4
      clear htt hts hs4 ht2
      go_wp2_with fail
      refine (hex4 y _ hy0 hy1).mono ?_
      rintro e w' ⟨he, rfl⟩
      rw [← HS4.out] at he
      subst he
      go_wp2_with fail
      refine (writeString w.heap.size w.heap.size (Lib.byteCells (half ys k)) t _ HB.out (by have := HL.out; have := HTS.out; omega) hbl.size).mono ?_
      rintro e w2 ⟨rfl, h2, b2⟩
      have hb2 := hbl.trans b2
      have H2 := Lib.hid h2
      clear h2 b2
      go_wp2_with fail
      go_roundw
      case rel =>
        refine ⟨k + 1, by omega, by go_num, ?_, hb2⟩
        have h2 := H2.out
        rw [HT.out, str_cells, ← Lib.byteCells_append, ← HE.out] at h2
        exact h2
      case measure => simp [intOf]; omega
    · have hkn : k = ys.length := by omega
      subst hkn
      have HB := Lib.hid hbd
      clear hbd
      go_wp2_with fail
      have hl6 : (Lib.byteCells (half ys ys.length)).length + 1 ≤ 1000000 := by rw [Lib.byteCells_length, half_length _ _ hk]; omega
      refine (writeQuote w.heap.size w.heap.size _ _ HB.out hl6 hbl.size).mono ?_
      rintro e w2 ⟨r2, rfl, h2, b2⟩
      rw [← quote_cells, ← Lib.byteCells_append, half_end] at h2
      have hb2 := hbl.trans b2
      clear b2 hl6
      go_wp2_with fail
      refine (Tryd.Builder_String_any w.heap.size w.heap.size (quoted ys) _ h2 hb2.size).mono ?_
      rintro e w3 ⟨rfl, b3⟩
      have hb3 := hb2.trans b3
      clear h2 hb2 b3
      obtain ⟨q, hq⟩ : ∃ q : ByteArray, q = ⟨(quoted ys).toArray⟩ := ⟨_, rfl⟩
      rw [← hq]
      have HQ := Lib.hid hq
      clear hq
      go_wp2_with fail
      go_ret
      rw [HQ.out]
      exact ⟨rfl, hb3⟩
end Go.Proofs.YtcncniomjkjamaaDoor
