/- The writers of package impl: what a Write, a WriteByte, a WriteString does to the writer's bytes. -/
import Derived.Test.YtcncniomjkjamaaRows
import Derived.WalkKit
import Derived.WalkSpells
import Derived.WalkLawsBesides
import Derived.Laws.AppendOwnNone
import Derived.Lib.AppendStr
import Derived.Lib.Hide
import Derived.Stop.Asserts
namespace Go.Proofs.Ytcncniomjkjamaa
open Go.RowKit

theorem info5 : (Try.prog.info? 5).map (fun i => (i.zero, i.size, i.bytes)) = some (some (.int .u8 0), 1, 1) := by kernel_rfl

/-- Bytes as values. -/
def vals (xs : List Int) : List Value := xs.map (Value.int .u8)

/-- Block b is a writer that holds the bytes xs. -/
def Wr (b : Nat) (xs : List Int) (w : World) : Prop :=
  b < w.heap.size ∧ ∃ v, w.cell? ⟨b, 0, none⟩ = some v ∧ w.frozen? ⟨b, 0, none⟩ = false ∧ w.ownsRow (b + 1) 5 1 v xs.length (vals xs)

/-- The slice value sv reads as the bytes ys. -/
def Src (sv : Value) (ys : List Int) (w : World) : Prop :=
  (sv = .slice none 0 0 ∧ ys = []) ∨ ∃ ad c, sv = .slice (some ad) ys.length c ∧ ∀ j u, (vals ys)[j]? = some u → w.cell? (ad.add j) = some u

def Wrote (b : Nat) (xs : List Int) (r : Value) (w : World) (e : Ending) (w' : World) : Prop :=
  e = .returned r ∧ Wr b xs w' ∧ Below b w w'

theorem vals_one (xs : List Int) : ∀ u ∈ vals xs, u.oneCell' = true := by
  intro u hu
  obtain ⟨x, _, rfl⟩ := List.mem_map.1 hu
  rfl

theorem vals_append (xs ys : List Int) : vals (xs ++ ys) = vals xs ++ vals ys := List.map_append ..
theorem vals_length (xs : List Int) : (vals xs).length = xs.length := List.length_map ..

theorem grown_cells {b : Nat} {w w1 : World} {v : Value} {row : Option Nat} (hb : b < w.heap.size) (hr : ∀ k, row = some k → b + 1 ≤ k) (hg : w.grownBy w1 row)
    (hc : w.cell? ⟨b, 0, none⟩ = some v) (hf : w.frozen? ⟨b, 0, none⟩ = false) : w1.cell? ⟨b, 0, none⟩ = some v ∧ w1.frozen? ⟨b, 0, none⟩ = false := by
  have h := hg.block b hb (fun e => by have := hr b e.symm; omega)
  exact ⟨(World.cell?_of_block (a := ⟨b, 0, none⟩) h).trans hc, (World.frozen?_of_block (a := ⟨b, 0, none⟩) h).trans hf⟩

theorem own_lt {w : World} {base : Nat} {v : Value} {n : Nat} {xs : List Value} (h : w.ownsRow base 5 1 v n xs) : ∀ k, v.ownBlock = some k → base ≤ k := fun k hk => (h.lt k hk).1

theorem wrote_store {b : Nat} {zs : List Int} {w w1 : World} {v v1 : Value} {row : Option Nat} {n : Nat} {zv : List Value} (hb : b < w.heap.size) (hr : ∀ k, row = some k → b + 1 ≤ k) (hg : w.grownBy w1 row)
    (hc : w.cell? ⟨b, 0, none⟩ = some v) (hf : w.frozen? ⟨b, 0, none⟩ = false)
    (hown : w1.ownsRow (b + 1) 5 1 v1 n zv) (hn : n = zs.length) (hz : zv = vals zs) : Wr b zs (w1.setCell ⟨b, 0, none⟩ v1) ∧ Below b w (w1.setCell ⟨b, 0, none⟩ v1) := by
  subst hn hz
  obtain ⟨hc1, hf1⟩ := grown_cells hb hr hg hc hf
  have hs := hg.size
  refine ⟨⟨by simp; omega, v1, ?_, ?_, ownsRow_setCell_below hown (by show b < b + 1; omega) _⟩, ?_⟩
  · exact World.cell?_setCell_same' _ _ _ (by rw [hc1]; rfl)
  · rw [World.frozen?_setCell]; exact hf1
  · exact ((Below.refl b w).grown hg (by omega) (fun k hk => by have := hr k hk; omega)).setCell (Nat.le_refl b) _

theorem own_slice {w : World} {base e size : Nat} {v : Value} {n : Nat} {xs : List Value} (h : w.ownsRow base e size v n xs) : ∃ oa c, v = .slice oa n c := by
  rcases h.2 with ⟨rfl, rfl⟩ | ⟨g, cap, cur, rfl, _⟩
  · exact ⟨_, _, rfl⟩
  · exact ⟨_, _, rfl⟩

theorem vals_length1 (xs : List Int) : (vals xs).length = xs.length * 1 := by rw [vals_length, Nat.mul_one]

set_option maxHeartbeats 400000 in
theorem plainWrite (b : Nat) (xs ys : List Int) (sv : Value) (w : World) (hw : Wr b xs w) (hs : Src sv ys w) (hm : xs.length + ys.length ≤ 4096) :
    Calls Try.prog 64 #[.pointer (some ⟨b, 0, none⟩), sv] w (Wrote b (xs ++ ys) (.tuple #[.int .i64 ys.length, .nilIface]) w) := by
  obtain ⟨hb, v, hc, hf, hown⟩ := hw
  obtain ⟨i0, hi, hz0, hz1, hz2⟩ := info_parts info5
  obtain ⟨oa, cp, rfl⟩ := own_slice hown
  have h63 : xs.length + ys.length ≤ maxLen := by unfold maxLen; omega
  have h47 : (xs.length + ys.length) * 1 ≤ 140737488355328 := by omega
  rcases hs with ⟨rfl, rfl⟩ | ⟨ad, c, rfl, hcell⟩
  · go_enter Try.func64, Try.ntmps64
    go_wp2_with (refine wpList_append_own_none rfl _ _ 29 rfl (b + 1) 5 i0 1 Try.underlying29 hi _ xs.length (vals xs) rfl hown rfl ?_)
    go_ret2
    rw [List.append_nil]
    obtain ⟨h1, h2⟩ := wrote_store (zs := xs) (row := none) hb (fun _ h => by cases h) ⟨rfl, rfl, rfl, Nat.le_refl _, fun _ _ _ => rfl⟩ hc hf hown rfl rfl
    exact ⟨rfl, h1, h2⟩
  · have HC := Lib.hid hcell
    clear hcell
    go_enter Try.func64, Try.ntmps64
    go_wp2_with (at_builtin; refine wpList_append_own _ rfl _ _ 29 rfl (b + 1) 5 i0 (.int .u8 0) 1 1 Try.underlying29 hi hz0 hz1 hz2 rfl (by decide) _ xs.length (vals xs) rfl hown ad ys.length c (vals ys) rfl (vals_length1 ys) HC.out (vals_one ys) h63 h47 hb ?_; intro v1 w1 hown1 hg1 _; obtain ⟨oa1, cp1, rfl⟩ := own_slice hown1; obtain ⟨hc1, hf1⟩ := grown_cells hb (own_lt hown) hg1 hc hf)
    go_ret2
    obtain ⟨h1, h2⟩ := wrote_store (zs := xs ++ ys) hb (own_lt hown) hg1 hc hf hown1 (by simp) (vals_append ..).symm
    exact ⟨rfl, h1, h2⟩

theorem kept_alloc {b : Nat} {w : World} {v : Value} (o : Obj) (hb : b < w.heap.size) (hc : w.cell? ⟨b, 0, none⟩ = some v) (hf : w.frozen? ⟨b, 0, none⟩ = false) :
    (w.alloc o).cell? ⟨b, 0, none⟩ = some v ∧ (w.alloc o).frozen? ⟨b, 0, none⟩ = false ∧ b < (w.alloc o).heap.size := by
  have h := (Below.refl (b + 1) w).alloc (w := w) hb o
  exact ⟨(h.cell (p := ⟨b, 0, none⟩) (by show b < b + 1; omega)).trans hc, (h.frozen (p := ⟨b, 0, none⟩) (by show b < b + 1; omega)).trans hf, by simp; omega⟩

set_option maxHeartbeats 400000 in
theorem bufByte (b : Nat) (xs : List Int) (y : Int) (w : World) (hw : Wr b xs w) (hm : xs.length + 1 ≤ 4096) :
    Calls Try.prog 66 #[.pointer (some ⟨b, 0, none⟩), .int .u8 y] w (Wrote b (xs ++ [y]) .nilIface w) := by
  obtain ⟨hb, v, hc, hf, hown⟩ := hw
  obtain ⟨i0, hi, hz0, hz1, hz2⟩ := info_parts info5
  obtain ⟨oa, cp, rfl⟩ := own_slice hown
  have h63 : xs.length + 1 ≤ maxLen := by unfold maxLen; omega
  have h47 : (xs.length + 1) * 1 ≤ 140737488355328 := by omega
  have hbase : b + 1 ≤ w.heap.size + 1 := by omega
  have HA := Lib.hid (kept_alloc (.cells #[.int .u8 y] 5) hb hc hf)
  have H1 := Lib.hid (vals_one [y])
  go_enter Try.func66, Try.ntmps66
  go_wp2_with (at_builtin; refine wpList_append_own _ rfl _ _ 29 rfl (b + 1) 5 i0 (.int .u8 0) 1 1 Try.underlying29 hi hz0 hz1 hz2 rfl (by decide) _ xs.length (vals xs) rfl (hown.alloc _) ⟨w.heap.size, 0, none⟩ 1 1 [.int .u8 y] rfl rfl (cell_one_new _ _ _) H1.out h63 h47 (by simp; omega) ?_; intro v1 w1 hown1 hg1 _; obtain ⟨oa1, cp1, rfl⟩ := own_slice hown1; obtain ⟨hc1, hf1⟩ := grown_cells HA.out.2.2 (own_lt hown) hg1 HA.out.1 HA.out.2.1)
  go_ret
  obtain ⟨h1, h2⟩ := wrote_store (zs := xs ++ [y]) HA.out.2.2 (own_lt hown) hg1 HA.out.1 HA.out.2.1 hown1 (by simp) (vals_append xs [y]).symm
  exact ⟨rfl, h1, ((Below.refl b w).alloc (by omega) _).trans h2⟩

theorem strCells_vals (s : ByteArray) : Lib.strCells s = vals (s.data.toList.map fun c => (c.toNat : Int)) := by
  unfold Lib.strCells vals
  rw [List.map_map]
  rfl

set_option maxHeartbeats 400000 in
theorem bufString (b : Nat) (xs : List Int) (s : ByteArray) (w : World) (hw : Wr b xs w) (hm : xs.length + s.size ≤ 4096) :
    Calls Try.prog 67 #[.pointer (some ⟨b, 0, none⟩), .string s] w (Wrote b (xs ++ s.data.toList.map fun c => (c.toNat : Int)) (.tuple #[.int .i64 s.size, .nilIface]) w) := by
  obtain ⟨hb, v, hc, hf, hown⟩ := hw
  obtain ⟨i0, hi, hz0, hz1, hz2⟩ := info_parts info5
  obtain ⟨oa, cp, rfl⟩ := own_slice hown
  have h63 : xs.length + s.size ≤ maxLen := by unfold maxLen; omega
  have h47 : xs.length + s.size ≤ 140737488355328 := by omega
  go_enter Try.func67, Try.ntmps67
  go_wp2_with (at_builtin; refine Lib.wpList_append_own_string _ rfl _ _ 29 9 rfl (b + 1) 5 i0 Try.underlying29 Try.underlying9 hi hz0 hz1 hz2 _ xs.length (vals xs) rfl hown s rfl h63 h47 hb ?_; intro v1 w1 hown1 hg1 _; obtain ⟨oa1, cp1, rfl⟩ := own_slice hown1; obtain ⟨hc1, hf1⟩ := grown_cells hb (own_lt hown) hg1 hc hf)
  go_ret2
  obtain ⟨h1, h2⟩ := wrote_store (zs := xs ++ s.data.toList.map fun c => (c.toNat : Int)) hb (own_lt hown) hg1 hc hf hown1 (by simp) (by rw [strCells_vals, vals_append])
  exact ⟨rfl, h1, h2⟩

@[go_sem] theorem ta69 (v : Value) (w : World) : (Instr.typeAssert (.iface 69 v) 49 82 true).run Try.prog w = .ok (.tuple #[.iface 69 v, .bool true]) w := run_typeAssert_hasB Try.underlying82 (by kernel_rfl) v 49 w
@[go_sem] theorem ta66 (v : Value) (w : World) : (Instr.typeAssert (.iface 66 v) 49 82 true).run Try.prog w = .ok (.tuple #[.nilIface, .bool false]) w := run_typeAssert_lacksB Try.underlying82 (by kernel_rfl) (by kernel_rfl) v 49 w
@[go_sem] theorem ta69s (v : Value) (w : World) : (Instr.typeAssert (.iface 69 v) 49 78 true).run Try.prog w = .ok (.tuple #[.iface 69 v, .bool true]) w := run_typeAssert_hasB Try.underlying78 (by kernel_rfl) v 49 w
@[go_sem] theorem ta66s (v : Value) (w : World) : (Instr.typeAssert (.iface 66 v) 49 78 true).run Try.prog w = .ok (.tuple #[.nilIface, .bool false]) w := run_typeAssert_lacksB Try.underlying78 (by kernel_rfl) (by kernel_rfl) v 49 w
@[go_sem] theorem m66 (b : Nat) (w : World) : (method 205 66 (.pointer (some ⟨b, 0, none⟩)) "Write").run Try.prog w = .ok (64, .pointer (some ⟨b, 0, none⟩)) w := by kernel_rfl
@[go_sem] theorem m69 (b : Nat) (w : World) : (method 205 69 (.pointer (some ⟨b, 0, none⟩)) "Write").run Try.prog w = .ok (64, .pointer (some ⟨b, 0, none⟩)) w := by kernel_rfl
@[go_sem] theorem m69b (b : Nat) (w : World) : (method 205 69 (.pointer (some ⟨b, 0, none⟩)) "WriteByte").run Try.prog w = .ok (66, .pointer (some ⟨b, 0, none⟩)) w := by kernel_rfl
@[go_sem] theorem m69s (b : Nat) (w : World) : (method 205 69 (.pointer (some ⟨b, 0, none⟩)) "WriteString").run Try.prog w = .ok (67, .pointer (some ⟨b, 0, none⟩)) w := by kernel_rfl
@[go_sem] theorem m69g (b : Nat) (w : World) : (method 205 69 (.pointer (some ⟨b, 0, none⟩)) "Grow").run Try.prog w = .ok (65, .pointer (some ⟨b, 0, none⟩)) w := by kernel_rfl

theorem grow (p : Value) (n : Int) (w : World) : Calls Try.prog 65 #[p, .int .i64 n] w fun e w' => e = .returned (.tuple #[]) ∧ w = w' := by
  go_enter Try.func65, Try.ntmps65
  go_wp2
  go_end0
  exact ⟨rfl, rfl⟩

def fb (x : Int) (k : Nat) : List Int := (List.range k).map fun i => x / 256 ^ i % 256

theorem fb_zero (x : Int) : fb x 0 = [] := rfl
theorem fb_succ (x : Int) (k : Nat) : fb x (k + 1) = fb x k ++ [x / 256 ^ k % 256] := by
  unfold fb
  rw [List.range_succ, List.map_append]
  rfl
theorem fb_length (x : Int) (k : Nat) : (fb x k).length = k := by simp [fb]

theorem and255 (z : Int) (h : 0 ≤ z) (h2 : z < 2 ^ 64) : bits .and .u64 z 255 % 256 = z % 256 := by
  rw [u64_and z 255 h (by omega) (by omega) (by omega)]
  rw [show (255 : Int).toNat = 255 from rfl, nat_mask8]
  omega

theorem div_next (x : Int) (k : Nat) : x / 256 ^ k / 256 = x / 256 ^ (k + 1) := by
  rw [Int.ediv_ediv_of_nonneg (Int.le_of_lt (Int.pow_pos (by omega))), Int.pow_succ]

set_option maxHeartbeats 400000 in
theorem encFloatFast (b n : Nat) (x : Int) (xs : List Int) (w : World) (hw : Wr b xs w) (hx : 0 ≤ x) (hx2 : x < 2 ^ 64) (hn : n ≤ 8) (hm : xs.length + 8 ≤ 4096) :
    Calls Try.prog 42 #[.iface 69 (.pointer (some ⟨b, 0, none⟩)), .int .i64 n, .int .u64 x] w (Wrote b (xs ++ fb x n) .nilIface w) := by
  go_enter Try.func42, Try.ntmps42
  go_wp2_with (go_at_call 65; refine (grow _ _ _).mono ?_; rintro e w' ⟨rfl, rfl⟩)
  go_loopw [2, 7, 11] (fun y e i wr => ∃ k : Nat, k ≤ n ∧ i = .int .i64 k ∧ e = .nilIface ∧ (∃ z : Int, 0 ≤ z ∧ z < 2 ^ 64 ∧ z = x / 256 ^ k ∧ y = .int .u64 z) ∧ Wr b (xs ++ fb x k) wr ∧ Below b w wr) (fun _ _ i _ => n - (intOf i).toNat)
  case atStart => exact ⟨0, by omega, rfl, rfl, ⟨x, hx, hx2, by simp, rfl⟩, by rw [fb_zero, List.append_nil]; exact hw, Below.refl _ _⟩
  case round =>
    obtain ⟨k, hk, rfl, rfl, ⟨z, hz1, hz2, hz3, rfl⟩, hwr, hbl⟩ := hrel
    have HZ := Lib.hid hz3
    clear hz3
    by_cases hlt : k < n
    · have hbound : (xs ++ fb x k).length + 1 ≤ 4096 := by rw [List.length_append, fb_length]; omega
      go_wp2_with (go_at_call 66; refine (bufByte b _ _ _ hwr hbound).mono ?_; rintro e w1 ⟨rfl, hw1, hb1⟩)
      go_roundw
      case rel => exact ⟨k + 1, by omega, by go_num, rfl, ⟨z / 256, by omega, by omega, by rw [HZ.out, div_next], rfl⟩, by rw [and255 z hz1 hz2, HZ.out, List.append_assoc, ← fb_succ] at hw1; exact hw1, hbl.trans hb1⟩
      case measure => simp [intOf]; omega
    · have hkn : k = n := by omega
      subst hkn
      go_wp2_with fail
      go_ret
      exact ⟨rfl, hwr, hbl⟩

theorem own_below {w w' : World} {base B : Nat} {v : Value} {n : Nat} {xs : List Value} (h : w.ownsRow base 5 1 v n xs) (hb : Below B w w') (hB : w.heap.size ≤ B) : w'.ownsRow base 5 1 v n xs := by
  refine ⟨h.1, ?_⟩
  rcases h.2 with h2 | ⟨g, cap, cur, hv, hg, hh, r⟩
  · exact .inl h2
  · exact .inr ⟨g, cap, cur, hv, hg, (hb.block g (by have := (Array.getElem?_eq_some_iff.1 hh).1; omega)).trans hh, r⟩

theorem Wr.below {b : Nat} {xs : List Int} {w w' : World} (h : Wr b xs w) (hb : Below w.heap.size w w') : Wr b xs w' := by
  obtain ⟨hl, v, hc, hf, hown⟩ := h
  exact ⟨by have := hb.size; omega, v, (hb.cell (p := ⟨b, 0, none⟩) hl).trans hc, (hb.frozen (p := ⟨b, 0, none⟩) hl).trans hf, own_below hown hb (Nat.le_refl _)⟩

theorem own_src {w : World} {base : Nat} {v : Value} {n : Nat} {ys : List Int} (h : w.ownsRow base 5 1 v n (vals ys)) : Src v ys w := by
  have hl : ys.length = n := by have := h.1; rw [vals_length] at this; omega
  subst hl
  rcases h.2 with ⟨hv, h0⟩ | ⟨g, cap, cur, hv, _⟩
  · exact .inl ⟨hv, List.eq_nil_of_length_eq_zero h0⟩
  · subst hv
    exact .inr ⟨⟨g, 0, none⟩, cap, rfl, h.cells (g := g) rfl⟩

set_option maxHeartbeats 400000 in
theorem encFloatSlow (b n : Nat) (x : Int) (xs : List Int) (w : World) (hw : Wr b xs w) (hx : 0 ≤ x) (hx2 : x < 2 ^ 64) (hn : n ≤ 8) (hm : xs.length + 8 ≤ 4096) :
    Calls Try.prog 42 #[.iface 66 (.pointer (some ⟨b, 0, none⟩)), .int .i64 n, .int .u64 x] w (Wrote b (xs ++ fb x n) .nilIface w) := by
  obtain ⟨i0, hi, hz0, hz1, hz2⟩ := info_parts info5
  have hmk : i0.bytes * n ≤ 281474976710656 := by rw [hz2]; omega
  have hml : n ≤ maxLen := by unfold maxLen; omega
  go_enter Try.func42, Try.ntmps42
  go_wp2_with (refine wpList_make_own _ rfl _ _ 29 rfl w.heap.size 5 i0 (.int .u8 0) 1 Try.underlying29 hi hz0 hz1 .i64 .i64 (n : Int) n rfl rfl rfl hmk hml (Nat.le_refl _) ?_; intro w1 hown1 hg1)
  have hb1 : Below w.heap.size w w1 := (Below.refl _ _).grown hg1 (Nat.le_refl _) (fun k h => by cases h)
  clear hmk hml hg1
  go_loopw [2, 8, 11] (fun y v i wr => ∃ k : Nat, k ≤ n ∧ i = .int .i64 k ∧ (∃ z : Int, 0 ≤ z ∧ z < 2 ^ 64 ∧ z = x / 256 ^ k ∧ y = .int .u64 z) ∧ wr.ownsRow w.heap.size 5 1 v (fb x k).length (vals (fb x k)) ∧ Below w.heap.size w wr) (fun _ _ i _ => n - (intOf i).toNat)
  case atStart => exact ⟨0, by omega, rfl, ⟨x, hx, hx2, by simp, rfl⟩, by rw [fb_zero]; exact hown1, hb1⟩
  case round =>
    obtain ⟨k, hk, rfl, ⟨z, hz1', hz2', hz3, rfl⟩, hown, hbl⟩ := hrel
    have HZ := Lib.hid hz3
    clear hz3
    by_cases hlt : k < n
    · have h63 : (fb x k).length + 1 ≤ maxLen := by rw [fb_length]; unfold maxLen; omega
      have h47 : ((fb x k).length + 1) * 1 ≤ 140737488355328 := by rw [fb_length]; omega
      have hbs := hbl.size
      have H1 := Lib.hid (vals_one [bits .and .u64 z 255 % 256])
      go_wp2_with (at_builtin; refine wpList_append_own _ rfl _ _ 29 rfl w.heap.size 5 i0 (.int .u8 0) 1 1 Try.underlying29 hi hz0 hz1 hz2 rfl (by decide) _ (fb x k).length (vals (fb x k)) rfl (hown.alloc _) ⟨wr.heap.size, 0, none⟩ 1 1 [.int .u8 (bits .and .u64 z 255 % 256)] rfl rfl (cell_one_new _ _ _) H1.out h63 h47 (by simp; omega) ?_; intro v2 w2 hown2 hg2 _)
      go_roundw
      case rel =>
        refine ⟨k + 1, by omega, by go_num, ⟨z / 256, by omega, by omega, by rw [HZ.out, div_next], rfl⟩, ?_, ?_⟩
        · rw [and255 z hz1' hz2', HZ.out] at hown2
          rw [fb_succ, vals_append, List.length_append]
          exact hown2
        · exact (hbl.alloc hbs _).grown hg2 (by simp; omega) (own_lt hown)
      case measure => simp [intOf]; omega
    · have hkn : k = n := by omega
      subst hkn
      have hsrc := own_src hown
      have hwr := hw.below hbl
      go_wp2_with (go_at_call 64; refine (plainWrite b xs (fb x k) _ _ hwr hsrc (by rw [fb_length]; omega)).mono ?_; rintro e w2 ⟨rfl, hw2, hb2⟩)
      go_ret
      exact ⟨rfl, hw2, (hbl.mono (by have := hw.1; omega)).trans hb2⟩
end Go.Proofs.Ytcncniomjkjamaa
