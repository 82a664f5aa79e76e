/- UTEncode: the builder's writers, hex4, EncodeByteString. -/
import Derived.Test.YtcncniomjkjamaaDoorRows
import Derived.Test.YtcncniomjkjamaaDoorShelf
import Derived.WalkKit
import Derived.WalkSpells
import Derived.WalkLawsBesides
import Derived.Lib.AppendStr
import Derived.Lib.Hide
namespace Go.Proofs.YtcncniomjkjamaaDoor
open Go.RowKit

theorem szB : (Tryd.prog.info? 30).map (·.size) = some 2 := by kernel_rfl
theorem liesB : liesAt Tryd.prog Tryd.prog.depth 30 (2 / Tryd.prog.cellsOf 30) 0 30 1 = true := by kernel_rfl
theorem info5 : (Tryd.prog.info? 5).map (fun i => (i.zero, i.size, i.bytes)) = some (some (.int .u8 0), 1, 1) := by kernel_rfl
theorem noEsc (x : Value) (w : World) : (callFunc 20 #[x]).run Tryd.prog w = .ok (.value x) w := by kernel_rfl

set_option maxHeartbeats 400000 in
theorem checkUsed (b : Nat) (w : World) (h0 : w.cell? ⟨b, 0, none⟩ = some (.pointer (some ⟨b, 0, none⟩))) :
    Calls Tryd.prog 17 #[.pointer (some ⟨b, 0, none⟩)] w fun e w' => e = .returned (.tuple #[]) ∧ w' = w := by
  obtain ⟨j, hj, _⟩ := Option.map_eq_some_iff.1 szB
  have hne := Lib.run_neq_ptr_same w ⟨b, 0, none⟩ Tryd.underlying28 hj
  go_enter Tryd.func17, Tryd.ntmps17
  go_wp2
  go_end0
  exact ⟨rfl, rfl⟩

set_option maxHeartbeats 400000 in
theorem checkFresh (b : Nat) (w : World) (h0 : w.cell? ⟨b, 0, none⟩ = some (.pointer none)) (hsh : w.shape? b = some (30, 2)) (hfz : w.frozen? ⟨b, 0, none⟩ = false) :
    Calls Tryd.prog 17 #[.pointer (some ⟨b, 0, none⟩)] w fun e w' => e = .returned (.tuple #[]) ∧ w' = w.setCell ⟨b, 0, none⟩ (.pointer (some ⟨b, 0, none⟩)) := by
  obtain ⟨j, hj, hjs⟩ := Option.map_eq_some_iff.1 szB
  have hto := Lib.run_to_unsafe w ⟨b, 0, none⟩ Tryd.underlying28 Tryd.underlying44 hj (by rw [hjs]; decide) hsh (Nat.zero_lt_succ 1)
  have hes := noEsc (.pointer (some ⟨b, 0, none⟩)) w
  have hfr := Lib.run_from_unsafe w ⟨b, 0, none⟩ Tryd.underlying44 Tryd.underlying28 hj hsh liesB
  clear hjs
  go_enter Tryd.func17, Tryd.ntmps17
  go_wp2
  go_end0
  exact ⟨rfl, rfl⟩

def digs : ByteArray := ⟨#[48, 49, 50, 51, 52, 53, 54, 55, 56, 57, 97, 98, 99, 100, 101, 102]⟩
def hexc (k : Nat) : UInt8 := if k < 10 then UInt8.ofNat (48 + k) else UInt8.ofNat (87 + k)

theorem digit_all : ∀ k : Fin 16, ∃ h : k.val < digs.size, digs[k.val]'h = hexc k.val ∧ Utf8.encode ((hexc k.val).toNat : Int) = ⟨#[hexc k.val]⟩ := by decide +kernel

theorem digit (kk : IntKind) (d : Int) (h0 : 0 ≤ d) (h1 : d < 16) : ∃ c s, (∀ w, (Instr.index 9 (.string ⟨#[48, 49, 50, 51, 52, 53, 54, 55, 56, 57, 97, 98, 99, 100, 101, 102]⟩) (.int kk d)).run Tryd.prog w = .ok (.int .u8 c) w) ∧
    (∀ w, (convert 5 9 (.int .u8 c)).run Tryd.prog w = .ok (.string s) w) ∧ s = ⟨#[hexc d.toNat]⟩ := by
  obtain ⟨h, e1, e2⟩ := digit_all ⟨d.toNat, by omega⟩
  refine ⟨((hexc d.toNat).toNat : Int), _, fun w => ?_, fun w => ?_, rfl⟩
  · show (Instr.index 9 (.string digs) (.int kk d)).run Tryd.prog w = _
    rw [run_index_string w 9 digs kk d Tryd.underlying9, dif_pos ⟨h0, by have : digs.size = 16 := rfl; omega⟩]
    simp only at e1
    rw [e1]
  · rw [run_convert_int_string w 5 9 .u8 _ (by rw [Tryd.underlying5]; rfl) Tryd.underlying9]
    simp only at e2
    rw [e2]

theorem and15 (z : Int) (h : 0 ≤ z) (h2 : z < 4294967296) : bits .and .u32 z 15 = z % 16 := by
  rw [u32_and z 15 h (by omega) (by omega) (by omega)]
  rw [show (15 : Int).toNat = 15 from rfl, nat_mask4]
  omega

theorem cat (a b : ByteArray) (h : a.size + b.size ≤ 1000000) : ∃ t, (∀ w, (Op.stringOp .add a b).run Tryd.prog w = .ok (.string t) w) ∧ t = a ++ b :=
  ⟨_, fun w => run_string_add_sum w a b (by omega), rfl⟩

def HexAt (t3 t2 t1 t0 : ByteArray) (o i : Value) : Prop :=
  (i = .int .i64 12 ∧ o = .string ⟨#[]⟩) ∨ (i = .int .i64 8 ∧ o = .string t3) ∨ (i = .int .i64 4 ∧ o = .string t2) ∨ (i = .int .i64 0 ∧ o = .string t1) ∨ (i = .int .i64 (-4) ∧ o = .string t0)

set_option maxHeartbeats 400000 in
theorem hex4 (x : Int) (w : World) (h0 : 0 ≤ x) (h1 : x < 256) :
    Calls Tryd.prog 13 #[.int .u32 x] w fun e w' => e = .returned (.string ⟨#[48, 48, hexc (x / 16).toNat, hexc (x % 16).toNat]⟩) ∧ w = w' := by
  have a3 : bits .and .u32 (x / 4096) 15 = 0 := by rw [and15 _ (by omega) (by omega)]; omega
  have a2 : bits .and .u32 (x / 256) 15 = 0 := by rw [and15 _ (by omega) (by omega)]; omega
  have a1 : bits .and .u32 (x / 16) 15 = x / 16 := by rw [and15 _ (by omega) (by omega)]; omega
  have a0 : bits .and .u32 x 15 = x % 16 := by rw [and15 _ (by omega) (by omega)]
  obtain ⟨c3, s3, hi3, hv3, he3⟩ := digit .u32 (bits .and .u32 (x / 4096) 15) (by rw [a3]; omega) (by rw [a3]; omega)
  obtain ⟨c2, s2, hi2, hv2, he2⟩ := digit .u32 (bits .and .u32 (x / 256) 15) (by rw [a2]; omega) (by rw [a2]; omega)
  obtain ⟨c1, s1, hi1, hv1, he1⟩ := digit .u32 (bits .and .u32 (x / 16) 15) (by rw [a1]; omega) (by rw [a1]; omega)
  obtain ⟨c0, s0, hi0, hv0, he0⟩ := digit .u32 (bits .and .u32 x 15) (by rw [a0]; omega) (by rw [a0]; omega)
  rw [a3] at he3
  rw [a2] at he2
  rw [a1] at he1
  rw [a0] at he0
  obtain ⟨t3, ht3, g3⟩ := cat ⟨#[]⟩ s3 (by rw [he3]; simp [ByteArray.size])
  obtain ⟨t2, ht2, g2⟩ := cat t3 s2 (by rw [g3, he3, he2]; simp [ByteArray.size_append]; simp [ByteArray.size])
  obtain ⟨t1, ht1, g1⟩ := cat t2 s1 (by rw [g2, g3, he3, he2, he1]; simp [ByteArray.size_append]; simp [ByteArray.size])
  obtain ⟨t0, ht0, g0⟩ := cat t1 s0 (by rw [g1, g2, g3, he3, he2, he1, he0]; simp [ByteArray.size_append]; simp [ByteArray.size])
  have hfin : t0 = ⟨#[48, 48, hexc (x / 16).toNat, hexc (x % 16).toNat]⟩ := by rw [g0, g1, g2, g3, he3, he2, he1, he0]; rfl
  have HF := Lib.hid hfin
  clear hfin g0 g1 g2 g3 he0 he1 he2 he3 a0 a1 a2 a3
  go_enter Tryd.func13, Tryd.ntmps13
  go_wp2
  go_loop [3, 4] (fun o i => HexAt t3 t2 t1 t0 o i) (fun _ i => (intOf i + 4).toNat)
  case atStart => exact .inl ⟨rfl, rfl⟩
  case round =>
    rcases hrel with ⟨rfl, rfl⟩ | ⟨rfl, rfl⟩ | ⟨rfl, rfl⟩ | ⟨rfl, rfl⟩ | ⟨rfl, rfl⟩
    · go_wp2
      go_round
      case rel => exact .inr (.inl ⟨rfl, rfl⟩)
      case measure => simp [intOf]
    · go_wp2
      go_round
      case rel => exact .inr (.inr (.inl ⟨rfl, rfl⟩))
      case measure => simp [intOf]
    · go_wp2
      go_round
      case rel => exact .inr (.inr (.inr (.inl ⟨rfl, rfl⟩)))
      case measure => simp [intOf]
    · go_wp2
      go_round
      case rel => exact .inr (.inr (.inr (.inr ⟨rfl, rfl⟩)))
      case measure => simp [intOf]
    · go_wp2
      go_ret
      rw [HF.out]
      exact ⟨rfl, rfl⟩

theorem copyCheck (B b : Nat) (bs : List Value) (w : World) (h : Lib.IsBuilder 30 5 B b bs w) :
    Calls Tryd.prog 17 #[.pointer (some ⟨b, 0, none⟩)] w fun e w' => e = .returned (.tuple #[]) ∧ (Lib.BuilderAt 30 5 B b (.pointer (some ⟨b, 0, none⟩)) bs w' ∧ Below B w w') := by
  rcases h with h | h
  · refine (checkFresh b w h.cell0 h.shape h.frozen0).mono ?_
    rintro e w' ⟨rfl, rfl⟩
    exact ⟨rfl, h.used _, (Below.refl B w).setCell (p := ⟨b, 0, none⟩) h.1 _⟩
  · refine (checkUsed b w h.cell0).mono ?_
    rintro e w' ⟨rfl, rfl⟩
    exact ⟨rfl, h, Below.refl B _⟩

/-- What a writer of the builder has done. -/
def Put (B b : Nat) (bs : List Value) (r : Value) (w : World) (e : Ending) (w' : World) : Prop := e = .returned r ∧ Lib.IsBuilder 30 5 B b bs w' ∧ Below B w w'

/-- The same, whatever it hands back. -/
def PutAny (B b : Nat) (bs : List Value) (w : World) (e : Ending) (w' : World) : Prop := ∃ r, e = .returned r ∧ Lib.IsBuilder 30 5 B b bs w' ∧ Below B w w'

set_option maxHeartbeats 1000000 in
set_option maxRecDepth 100000 in
theorem writeString (B b : Nat) (bs : List Value) (s : ByteArray) (w : World) (h : Lib.IsBuilder 30 5 B b bs w) (hlen : bs.length + s.size ≤ 1000000) (hBw : B ≤ w.heap.size) :
    Calls Tryd.prog 12 #[.pointer (some ⟨b, 0, none⟩), .string s] w (Put B b (bs ++ Lib.strCells s) (.tuple #[.int .i64 s.size, .nilIface]) w) := by
  obtain ⟨i0, hi, hz0, hz1, hz2⟩ := info_parts info5
  go_enter Tryd.func12, Tryd.ntmps12
  go_wp2_with fail
  refine (copyCheck B b bs _ h).mono ?_
  rintro e w1 ⟨rfl, h1, hb1⟩
  obtain ⟨hB, v, hbk, hown, hne⟩ := h1
  have c1 : w1.cell? ⟨b, 1, none⟩ = some v := by rw [Lib.cell_of_heap hbk]; rfl
  have h63 : bs.length + s.size ≤ maxLen := by unfold maxLen; omega
  have h47 : bs.length + s.size ≤ 140737488355328 := by omega
  have hB1 : B ≤ w1.heap.size := by have := hb1.size; omega
  go_wp2_with (at_builtin; refine Lib.wpList_append_own_string _ rfl _ _ 22 9 rfl B 5 i0 Tryd.underlying22 Tryd.underlying9 hi hz0 hz1 hz2 _ _ _ rfl hown s rfl h63 h47 hB1 ?_)
  intro v' w2 hown' hgrow _
  have hlt : b < w1.heap.size := by
    rcases Nat.lt_or_ge b w1.heap.size with h' | h'
    · exact h'
    · simp [Array.getElem?_eq_none h'] at hbk
  have hb2 : w2.heap[b]? = some (.cells #[.pointer (some ⟨b, 0, none⟩), v] 30 (0, 0)) := by
    rw [hgrow.block b hlt (fun e => hne e.symm)]
    exact hbk
  have d1 : w2.cell? ⟨b, 1, none⟩ = some v := by rw [Lib.cell_of_heap hb2]; rfl
  have f1 : w2.frozen? ⟨b, 1, none⟩ = false := Lib.frozen_of_heap hb2 1
  obtain ⟨ao, n', cap, rfl⟩ : ∃ ao n' cap, v' = .slice ao n' cap := by
    rcases hown'.2 with ⟨hv, _⟩ | ⟨g, cap, cur, hv, _⟩
    · exact ⟨_, _, _, hv⟩
    · exact ⟨_, _, _, hv⟩
  have HH := Lib.hid hb2
  clear hb2 hbk
  go_wp2_with fail
  go_ret2
  refine ⟨rfl, .inr (Lib.BuilderAt.put (T := 30) (e := 5) hB HH.out (bs' := bs ++ Lib.strCells s) (by rw [List.length_append, Lib.strCells_length]; exact hown') (by decide)), ?_⟩
  exact (hb1.grown hgrow hB1 (fun k hk => (hown.lt k hk).1)).setCell (p := ⟨b, 1, none⟩) hB _

theorem buf_after {b : Nat} {p v : Value} {w1 w2 : World} {row : Option Nat} (hbk : w1.heap[b]? = some (.cells #[p, v] 30 (0, 0))) (hg : w1.grownBy w2 row) (hne : row ≠ some b) :
    w2.heap[b]? = some (.cells #[p, v] 30 (0, 0)) ∧ w2.cell? ⟨b, 1, none⟩ = some v ∧ w2.frozen? ⟨b, 1, none⟩ = false := by
  have hlt : b < w1.heap.size := by
    rcases Nat.lt_or_ge b w1.heap.size with h' | h'
    · exact h'
    · simp [Array.getElem?_eq_none h'] at hbk
  have hb2 : w2.heap[b]? = some (.cells #[p, v] 30 (0, 0)) := by
    rw [hg.block b hlt (fun e => hne e.symm)]
    exact hbk
  exact ⟨hb2, by rw [Lib.cell_of_heap hb2]; rfl, Lib.frozen_of_heap hb2 1⟩

theorem alloc_block {b : Nat} {o p : Obj} {w : World} (h : w.heap[b]? = some o) : (w.alloc p).heap[b]? = some o := by
  have hlt : b < w.heap.size := (Array.getElem?_eq_some_iff.1 h).1
  rw [Below.heap_alloc _ _ _ hlt]
  exact h

theorem own_slice {w : World} {base e size : Nat} {v : Value} {n : Nat} {xs : List Value} (h : w.ownsRow base e size v n xs) : ∃ oa c, v = .slice oa n c := by
  rcases h.2 with ⟨rfl, rfl⟩ | ⟨g, cap, cur, rfl, _⟩
  · exact ⟨_, _, rfl⟩
  · exact ⟨_, _, rfl⟩

set_option maxHeartbeats 1000000 in
set_option maxRecDepth 100000 in
theorem writeQuote (B b : Nat) (bs : List Value) (w : World) (h : Lib.IsBuilder 30 5 B b bs w) (hlen : bs.length + 1 ≤ 1000000) (hBw : B ≤ w.heap.size) :
    Calls Tryd.prog 11 #[.pointer (some ⟨b, 0, none⟩), .int .i32 34] w (PutAny B b (bs ++ [.int .u8 34]) w) := by
  obtain ⟨i0, hi, hz0, hz1, hz2⟩ := info_parts info5
  go_enter Tryd.func11, Tryd.ntmps11
  go_wp2_with fail
  refine (copyCheck B b bs _ h).mono ?_
  rintro e w1 ⟨rfl, h1, hb1⟩
  obtain ⟨hB, v, hbk, hown, hne⟩ := h1
  obtain ⟨ao0, cap0, rfl⟩ : ∃ ao cap, v = .slice ao bs.length cap := by
    rcases hown.2 with ⟨hv, h0⟩ | ⟨g, cap, cur, hv, _⟩
    · exact ⟨none, 0, by rw [hv, h0]⟩
    · exact ⟨_, _, hv⟩
  have c1 : w1.cell? ⟨b, 1, none⟩ = some (.slice ao0 bs.length cap0) := by rw [Lib.cell_of_heap hbk]; rfl
  have h63 : bs.length + 1 ≤ maxLen := by unfold maxLen; omega
  have h47 : (bs.length + 1) * 1 ≤ 140737488355328 := by omega
  have hB1 : B ≤ w1.heap.size := by have := hb1.size; omega
  have H1 := Lib.hid (show ∀ u ∈ [Value.int .u8 34], u.oneCell' = true from by intro u hu; simp at hu; subst hu; rfl)
  have HA := Lib.hid (alloc_block (p := .cells #[.int .u8 34] 5) hbk)
  have hne' := Lib.hid hne
  clear hbk hne
  go_wp2_with (first | (go_at_call 18; go_in) | (at_builtin; refine wpList_append_own _ rfl _ _ 22 rfl B 5 i0 (.int .u8 0) 1 1 Tryd.underlying22 hi hz0 hz1 hz2 rfl (by decide) _ _ _ rfl (hown.alloc _) ⟨w1.heap.size, 0, none⟩ 1 1 [.int .u8 34] rfl rfl (cell_one_new _ _ _) H1.out h63 h47 (by simp; omega) ?_; intro v' w2 hown' hgrow _; obtain ⟨oa1, cp1, rfl⟩ := own_slice hown'; obtain ⟨hb2, d1, f1⟩ := buf_after HA.out hgrow hne'.out; have HB2 := Lib.hid hb2; clear hb2) | fail)
  go_ret2
  refine ⟨_, rfl, .inr (Lib.BuilderAt.put (T := 30) (e := 5) hB HB2.out (bs' := bs ++ [.int .u8 34]) (by rw [List.length_append]; exact hown') (by decide)), ?_⟩
  exact ((hb1.alloc hB1 _).grown hgrow (by simp; omega) (fun k hk => (hown.lt k hk).1)).setCell (p := ⟨b, 1, none⟩) hB _

/-- A slice of bytes that lies in a row. -/
def Row (sv : Value) (ys : List Int) (w : World) : Prop :=
  (sv = .slice none 0 0 ∧ ys = []) ∨ ∃ ad c, sv = .slice (some ad) ys.length c ∧ ∀ j, j < ys.length → ∃ b o, ad = ⟨b, o, none⟩ ∧ b < w.heap.size ∧ w.cell? ⟨b, o + j, none⟩ = some (.int .u8 (ys.getD j 0))

theorem Row.below {sv : Value} {ys : List Int} {w w' : World} (h : Row sv ys w) (hb : Below w.heap.size w w') : Row sv ys w' := by
  rcases h with h | ⟨ad, c, h1, h2⟩
  · exact .inl h
  · refine .inr ⟨ad, c, h1, fun j hj => ?_⟩
    obtain ⟨b, o, e, hl, hc⟩ := h2 j hj
    exact ⟨b, o, e, by have := hb.size; omega, (hb.cell (p := ⟨b, o + j, none⟩) hl).trans hc⟩

/-- The bytes of the six signs by which a byte is escaped. -/
def esc (y : Int) : List UInt8 := [92, 117, 48, 48, hexc (y / 16).toNat, hexc (y % 16).toNat]
def escs (ys : List Int) : List UInt8 := ys.flatMap esc
def quoted (ys : List Int) : List UInt8 := 34 :: (escs ys ++ [34])

theorem escs_length (ys : List Int) : (escs ys).length = 6 * ys.length := by
  induction ys with
  | nil => rfl
  | cons y r ih =>
    show (esc y ++ escs r).length = _
    rw [List.length_append, ih]
    simp [esc]
    omega

theorem escs_take (ys : List Int) (k : Nat) (h : k < ys.length) : escs (ys.take (k + 1)) = escs (ys.take k) ++ esc (ys.getD k 0) := by
  rw [List.take_succ_eq_append_getElem h]
  unfold escs
  rw [List.flatMap_append]
  simp [h]

theorem esc_cat (y : Int) : (⟨#[92, 117]⟩ : ByteArray) ++ ⟨#[48, 48, hexc (y / 16).toNat, hexc (y % 16).toNat]⟩ = ⟨(esc y).toArray⟩ := by
  apply ByteArray.ext
  simp [esc]

end Go.Proofs.YtcncniomjkjamaaDoor
