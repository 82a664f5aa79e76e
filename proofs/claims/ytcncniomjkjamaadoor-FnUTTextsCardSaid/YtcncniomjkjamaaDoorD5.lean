/- The reference's UTText, and DecodeByteString. -/
import Derived.Test.YtcncniomjkjamaaDoorD2
import Derived.Test.YtcncniomjkjamaaDoorD4
namespace Go.Proofs.YtcncniomjkjamaaDoor
open Go.RowKit

theorem size_of (l : List UInt8) : (⟨l.toArray⟩ : ByteArray).size = l.length := by simp [ByteArray.size]

def TextAt (w : World) (ys : List Int) (o i : Value) (wr : World) : Prop :=
  ∃ k : Nat, k ≤ ys.length ∧ i = .int .i64 k ∧ o = .string ⟨(txt (ys.take k)).toArray⟩ ∧ Below w.heap.size w wr

set_option maxRecDepth 100000 in
set_option maxHeartbeats 1000000 in
theorem specText (sv : Value) (ys : List Int) (w : World) (hs : Row sv ys w) (hy : ∀ y ∈ ys, 0 ≤ y ∧ y < 256) (hm : ys.length ≤ 100) :
    Calls Tryd.prog 8 #[sv] w fun e w' => e = .returned (.string ⟨(txt ys).toArray⟩) ∧ Below w.heap.size w w' := by
  obtain ⟨oa, cp, rfl⟩ := hs.slice
  have HS := Lib.hid hs
  have HY := Lib.hid hy
  clear hs hy
  go_enter Tryd.func8, Tryd.ntmps8
  go_wp2_with fail
  go_loopw [3, 8] (fun o i wr => TextAt w ys o i wr) (fun _ i _ => ys.length - (intOf i).toNat)
  case atStart => exact ⟨0, Nat.zero_le _, rfl, rfl, Below.refl _ _⟩
  case round =>
    obtain ⟨k, hk, rfl, rfl, hbl⟩ := hrel
    obtain ⟨acc, hacc⟩ : ∃ a : ByteArray, a = ⟨(txt (ys.take k)).toArray⟩ := ⟨_, rfl⟩
    have hsz : acc.size ≤ 200 := by
      rw [hacc]
      have := (txt_length (ys.take k)).2
      rw [List.length_take] at this
      simp [ByteArray.size]
      omega
    rw [← hacc]
    by_cases hlt : k < ys.length
    · obtain ⟨b, o, rfl, hc⟩ := (HS.out.below hbl).at k hlt
      obtain ⟨hy0, hy1⟩ := HY.out _ (getD_mem hlt)
      have htk := txt_take ys k hlt
      generalize ys.getD k 0 = y at hc hy0 hy1 htk
      obtain ⟨t2, ht2⟩ : ∃ t : ByteArray, t = Utf8.encode y := ⟨_, rfl⟩
      have hcv := fun w' => run_convert_int_string (P := Tryd.prog) w' 21 9 .i32 y (by rw [Tryd.underlying21]; rfl) Tryd.underlying9
      rw [← ht2] at hcv
      rw [encode_u8s y hy0 hy1] at ht2
      have hl := (u8s_length y).2
      have e2 : t2.size = (u8s y).length := by rw [ht2, size_of]
      have h12 : acc.size + t2.size ≤ 1000000 := by omega
      clear e2
      obtain ⟨t4, h4, g4⟩ := cat acc t2 h12
      clear h12
      have hfin : t4 = ⟨(txt (ys.take (k + 1))).toArray⟩ := by rw [g4, hacc, ht2, htk]; apply ByteArray.ext; simp
      have HF := Lib.hid hfin
      clear hacc hsz ht2 htk hl g4 hfin
      go_wp2_with fail
      go_roundw
      case rel => exact ⟨k + 1, by omega, by go_num, by rw [HF.out], hbl⟩
      case measure => simp [intOf]; omega
    · have hkn : k = ys.length := by omega
      subst hkn
      have HA := Lib.hid hacc
      clear hacc hsz
      go_wp2_with fail
      go_ret
      rw [HA.out, List.take_length]
      exact ⟨rfl, hbl⟩

def DecAt (w : World) (ys : List Int) (R : Nat) (i j : Value) (wr : World) : Prop :=
  ∃ k : Nat, k ≤ ys.length ∧ j = .int .i64 k ∧ i = .int .i64 (txt (ys.take k)).length ∧
    (∀ m, m < ys.length → wr.cell? ⟨R, m, none⟩ = some (.int .u8 (if m < k then ys.getD m 0 else 0)) ∧ wr.frozen? ⟨R, m, none⟩ = false) ∧ w.heap.size ≤ R ∧ R < wr.heap.size ∧ Below w.heap.size w wr

theorem made_row {w : World} {base R n : Nat} (h : w.ownsRow base 5 1 (.slice (some ⟨R, 0, none⟩) n n) n (madeCells (Value.int .u8 0).cells (n * 1)).toList) :
    ∀ m, m < n → w.cell? ⟨R, m, none⟩ = some (.int .u8 0) ∧ w.frozen? ⟨R, m, none⟩ = false ∧ R < w.heap.size := by
  intro m hm
  have hc := h.cells (g := R) rfl m (.int .u8 0) (by
    rw [Nat.mul_one]
    show (madeCells #[Value.int .u8 0] n).toList[m]? = _
    rw [toList_madeCells_one]
    simp [hm])
  have ha : ((⟨R, 0, none⟩ : Addr).add m) = ⟨R, m, none⟩ := by unfold Addr.add; split <;> simp_all
  rw [ha] at hc
  rcases h.2 with ⟨_, h0⟩ | ⟨g, cap, cur, hv, _, hh, _⟩
  · omega
  · simp only [Value.slice.injEq, Option.some.injEq, Addr.mk.injEq] at hv
    obtain ⟨⟨rfl, _⟩, _⟩ := hv
    exact ⟨hc, Lib.frozen_of_heap hh m, (Array.getElem?_eq_some_iff.1 hh).1⟩

theorem dec_store {w wr w' : World} {ys : List Int} {R k : Nat} (q : Int) (hk : k < ys.length) (hq : q = ys.getD k 0)
    (h : ∀ m, m < ys.length → wr.cell? ⟨R, m, none⟩ = some (.int .u8 (if m < k then ys.getD m 0 else 0)) ∧ wr.frozen? ⟨R, m, none⟩ = false) (hR : w.heap.size ≤ R) (hR2 : R < wr.heap.size) (hb : Below w.heap.size w wr)
    (hb2 : Below wr.heap.size wr w') :
    (∀ m, m < ys.length → (w'.setCell ⟨R, k, none⟩ (.int .u8 q)).cell? ⟨R, m, none⟩ = some (.int .u8 (if m < k + 1 then ys.getD m 0 else 0)) ∧ (w'.setCell ⟨R, k, none⟩ (.int .u8 q)).frozen? ⟨R, m, none⟩ = false) ∧
    w.heap.size ≤ R ∧ R < (w'.setCell ⟨R, k, none⟩ (.int .u8 q)).heap.size ∧ Below w.heap.size w (w'.setCell ⟨R, k, none⟩ (.int .u8 q)) := by
  have hs := hb2.size
  refine ⟨fun m hm => ⟨?_, ?_⟩, hR, by simp [World.setCell]; omega, (hb.trans (hb2.mono hb.size)).setCell (p := ⟨R, k, none⟩) hR _⟩
  · by_cases e : m = k
    · subst e
      rw [World.cell?_setCell_same' _ _ _ (by rw [hb2.cell (p := ⟨R, m, none⟩) hR2, (h m hm).1]; rfl), if_pos (by omega), hq]
    · have hn : (⟨R, k, none⟩ : Addr) ≠ ⟨R, m, none⟩ := fun e2 => e (by injection e2 with _ h2 _; exact h2.symm)
      rw [World.cell?_setCell_other (h := hn), hb2.cell (p := ⟨R, m, none⟩) hR2, (h m hm).1]
      by_cases hl : m < k
      · rw [if_pos hl, if_pos (by omega)]
      · rw [if_neg hl, if_neg (by omega)]
  · rw [World.frozen?_setCell, hb2.frozen (p := ⟨R, m, none⟩) hR2]
    exact (h m hm).2

/-- What DecodeByteString hands back. -/
def Bytes (ys : List Int) (w : World) (e : Ending) (w' : World) : Prop := ∃ v, e = .returned v ∧ Row v ys w' ∧ Below w.heap.size w w'

set_option maxRecDepth 100000 in
set_option maxHeartbeats 1000000 in
theorem decodeText (s : ByteArray) (ys : List Int) (w : World) (hs : s = ⟨(txt ys).toArray⟩) (hy : ∀ y ∈ ys, 0 ≤ y ∧ y < 256) (hm : ys.length ≤ 100) (hT : Lib.Utf8Tabs 0 1 w) :
    Calls Tryd.prog 10 #[.string s] w (Bytes ys w) := by
  obtain ⟨i0, hi, hz0, hz1, hz2⟩ := info_parts info5
  have hcnt := count_txt ys hy
  rw [← hs] at hcnt
  have hsz : s.size ≤ 200 := by
    rw [hs]
    have := (txt_length ys).2
    simp [ByteArray.size]
    omega
  have HS := Lib.hid hs
  have HC := Lib.hid hcnt
  have HT := Lib.hid hT
  clear hs hcnt hT
  have hmk : i0.bytes * ys.length ≤ 281474976710656 := by rw [hz2]; omega
  have hml : ys.length ≤ maxLen := by unfold maxLen; omega
  go_enter Tryd.func10, Tryd.ntmps10
  go_wp2_with fail
  refine (Tryd.utf8_RuneCountInString s _ (by omega)).mono ?_
  rintro e w1 ⟨rfl, pos, hw1⟩
  have hb1 : Below w.heap.size w w1 := by rw [hw1]; exact (Below.refl _ _).alloc (Nat.le_refl _) _
  clear hw1
  rw [HC.out]
  have hbs := hb1.size
  go_wp2_with (refine wpList_make_full _ rfl _ _ 22 rfl w1.heap.size 5 i0 (.int .u8 0) 1 Tryd.underlying22 hi hz0 hz1 .i64 .i64 (ys.length : Int) (ys.length : Int) ys.length rfl rfl rfl rfl hmk hml (Nat.le_refl _) ?_; intro w2 hown hg)
  have hb2 := hb1.trans ((Below.refl w1.heap.size w1).grown hg (Nat.le_refl _) (fun _ h => by cases h) |>.mono hbs)
  have hrow := made_row hown
  have hR := hb2.size
  have hlt2 := (hown.lt w1.heap.size rfl).2
  have HROW := Lib.hid hrow
  clear hmk hml hg hrow hown
  generalize w1.heap.size = R at hbs HROW hlt2 ⊢
  go_loopw [4, 5] (fun i j wr => DecAt w ys R i j wr) (fun _ j _ => ys.length - (intOf j).toNat)
  case atStart => exact ⟨0, Nat.zero_le _, rfl, rfl, fun m hm' => ⟨by rw [if_neg (by omega)]; exact (HROW.out m hm').1, (HROW.out m hm').2.1⟩, hbs, hlt2, hb2⟩
  case round =>
    obtain ⟨k, hk, rfl, rfl, hcells, hR1, hR2, hbl⟩ := hrel
    by_cases hlt : k < ys.length
    · obtain ⟨hp, hd, hsum⟩ := read_at ys k hlt hy s HS.out
      have hgy := hy _ (getD_mem hlt)
      have hTr := Utf8Tabs_below HT.out hbl
      have HTR := Lib.hid hTr
      have HSUM := Lib.hid hsum
      obtain ⟨hck, hfk⟩ := hcells k hlt
      rw [if_neg (by omega)] at hck
      have HCELLS := Lib.hid hcells
      have hq0 := Int.toNat_of_nonneg hgy.1
      have HQ := Lib.hid hq0
      have hq1 : (ys.getD k 0).toNat < 256 := by omega
      have HD := Lib.hid hd
      have hul := (u8s_length (ys.getD k 0)).2
      clear hTr hsum hcells hq0 hd hgy
      generalize (txt (ys.take k)).length = p at hp HD HSUM ⊢
      generalize (u8s (ys.getD k 0)).length = l at HD HSUM hul
      generalize (ys.getD k 0).toNat = q at HD HQ hq1
      go_wp2_with fail
      refine (Tryd.utf8_DecodeRuneInString (s.extract p s.size) _ HTR.out).mono ?_
      rintro e w3 ⟨he, b3⟩
      rw [HD.out] at he
      subst he
      have hck3 := (b3.cell (p := ⟨R, k, none⟩) hR2).trans hck
      have hfk3 := (b3.frozen (p := ⟨R, k, none⟩) hR2).trans hfk
      go_wp2_with fail
      go_roundw
      case rel =>
        obtain ⟨g1, g2, g3, g4⟩ := dec_store (w := w) (q : Int) hlt HQ.out HCELLS.out hR1 hR2 hbl b3
        exact ⟨k + 1, by omega, by go_num, by rw [← HSUM.out]; go_num, g1, g2, g3, g4⟩
      case measure => simp [intOf]; omega
    · have hkn : k = ys.length := by omega
      subst hkn
      have hend : (txt (ys.take ys.length)).length = s.size := by rw [List.take_length, HS.out, size_of]
      rw [hend]
      have HCELLS := Lib.hid hcells
      clear hend hcells
      go_wp2_with fail
      go_ret
      refine ⟨_, rfl, .inr ⟨⟨R, 0, none⟩, _, rfl, fun j hj => ⟨R, 0, rfl, hR2, ?_⟩⟩, hbl⟩
      have := (HCELLS.out j hj).1
      rw [if_pos hj] at this
      rw [Nat.zero_add]
      exact this
end Go.Proofs.YtcncniomjkjamaaDoor
