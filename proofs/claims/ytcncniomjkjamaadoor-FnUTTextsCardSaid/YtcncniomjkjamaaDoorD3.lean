/- The reference's UTEncode. -/
import Derived.Test.YtcncniomjkjamaaDoorD2
import Derived.RegionTactic
import Derived.BigRegion
import Derived.ChangeAlike
namespace Go.Proofs.YtcncniomjkjamaaDoor
open Go.RowKit

set_option maxHeartbeats 400000 in
theorem implEncode (sv : Value) (ys : List Int) (w : World) (hs : Row sv ys w) (hy : ∀ y ∈ ys, 0 ≤ y ∧ y < 256) (hm : ys.length ≤ 100) :
    Calls Tryd.prog 4 #[sv] w fun e w' => e = .returned (.string ⟨(quoted ys).toArray⟩) ∧ Below w.heap.size w w' := by
  go_enter Tryd.func4, Tryd.ntmps4
  go_wp2_with fail
  refine (encode sv ys _ hs hy hm).mono ?_
  rintro e w' ⟨he, hb⟩
  obtain ⟨q, hq⟩ : ∃ q : ByteArray, q = ⟨(quoted ys).toArray⟩ := ⟨_, rfl⟩
  rw [← hq] at he
  subst he
  have HQ := Lib.hid hq
  clear hq
  go_wp2_with fail
  go_ret
  rw [HQ.out]
  exact ⟨rfl, hb⟩

theorem u8and15 (z : Int) (h : 0 ≤ z) (h2 : z < 256) : bits .and .u8 z 15 = z % 16 := by
  rw [u8_and z 15 h (by omega) (by omega) (by omega)]
  rw [show (15 : Int).toNat = 15 from rfl, nat_mask4]
  omega

theorem conv2 (c d : UInt8) (w : World) : (convert 22 9 (.slice (some ⟨w.heap.size, 0, none⟩) 2 2)).run Tryd.prog (w.alloc (.cells #[.int .u8 c.toNat, .int .u8 d.toNat] 5)).drew = .ok (.string ⟨#[c, d]⟩) (w.alloc (.cells #[.int .u8 c.toNat, .int .u8 d.toNat] 5)).drew :=
  run_convert_bytes_back (P := Tryd.prog) _ 22 9 5 ⟨w.heap.size, 0, none⟩ 2 [c, d] Tryd.underlying22 Tryd.underlying5 Tryd.underlying9 (fun j hj => by
    show ((w.drew.alloc _).cell? _) = _
    match j, hj with
    | 0, _ => exact (World.cell?_alloc_mark w.drew _ _ _ _)
    | 1, _ => exact (World.cell?_alloc_mark w.drew _ _ _ _))

theorem digit2 (kk : IntKind) (d : Int) (h0 : 0 ≤ d) (h1 : d < 16) : ∃ c : UInt8, (∀ w, (Instr.index 9 (.string ⟨#[48, 49, 50, 51, 52, 53, 54, 55, 56, 57, 97, 98, 99, 100, 101, 102]⟩) (.int kk d)).run Tryd.prog w = .ok (.int .u8 (c.toNat : Int)) w) ∧ c = hexc d.toNat := by
  obtain ⟨h, e1, e2⟩ := digit_all ⟨d.toNat, by omega⟩
  refine ⟨hexc d.toNat, fun w => ?_, rfl⟩
  show (Instr.index 9 (.string digs) (.int kk d)).run Tryd.prog w = _
  rw [run_index_string w 9 digs kk d Tryd.underlying9, dif_pos ⟨h0, by have : digs.size = 16 := rfl; omega⟩]
  simp only at e1
  rw [e1]

/-- What holds at the head of a round of the reference. -/
def SpecAt (w : World) (ys : List Int) (o i : Value) (wr : World) : Prop :=
  ∃ k : Nat, k ≤ ys.length ∧ i = .int .i64 k ∧ o = .string ⟨(half ys k).toArray⟩ ∧ Below w.heap.size w wr

set_option maxRecDepth 100000 in
set_option maxHeartbeats 1000000 in
theorem specEncode (sv : Value) (ys : List Int) (w : World) (hs : Row sv ys w) (hy : ∀ y ∈ ys, 0 ≤ y ∧ y < 256) (hm : ys.length ≤ 100) :
    Calls Tryd.prog 5 #[sv] w fun e w' => e = .returned (.string ⟨(quoted ys).toArray⟩) ∧ Below w.heap.size w w' := by
  obtain ⟨oa, cp, rfl⟩ := hs.slice
  have HS := Lib.hid hs
  have HY := Lib.hid hy
  clear hs hy
  go_enter Tryd.func5, Tryd.ntmps5
  go_wp2_with fail
  go_loopw [3, 8] (fun o i wr => SpecAt w ys o i wr) (fun _ i _ => ys.length - (intOf i).toNat)
  case atStart => exact ⟨0, Nat.zero_le _, rfl, rfl, Below.refl _ _⟩
  case round =>
    obtain ⟨k, hk, rfl, rfl, hbl⟩ := hrel
    obtain ⟨acc, hacc⟩ : ∃ a : ByteArray, a = ⟨(half ys k).toArray⟩ := ⟨_, rfl⟩
    have hsz : acc.size = 6 * k + 1 := by rw [hacc, ← half_length ys k hk]; simp [ByteArray.size]
    rw [← hacc]
    by_cases hlt : k < ys.length
    · obtain ⟨b, o, rfl, hc⟩ := (HS.out.below hbl).at k hlt
      obtain ⟨hy0, hy1⟩ := HY.out _ (getD_mem hlt)
      have hes := half_succ ys k hlt
      have HE := Lib.hid hes
      clear hes
      generalize ys.getD k 0 = y at hc hy0 hy1 HE
      have a0 := u8and15 y hy0 hy1
      obtain ⟨c1, i1, e1⟩ := digit2 .u8 (y / 16) (by omega) (by omega)
      obtain ⟨c0, i0, e0⟩ := digit2 .u8 (bits .and .u8 y 15) (by rw [a0]; omega) (by rw [a0]; omega)
      rw [a0] at e0
      have hcv := conv2 c1 c0 wr
      obtain ⟨t2, ht2⟩ : ∃ t : ByteArray, t = ⟨#[c1, c0]⟩ := ⟨_, rfl⟩
      rw [← ht2] at hcv
      obtain ⟨t3, h3, g3⟩ := cat ⟨#[92, 117, 48, 48]⟩ t2 (by rw [ht2]; simp [ByteArray.size])
      have hesc : t3 = ⟨(esc y).toArray⟩ := by rw [g3, ht2, e1, e0]; apply ByteArray.ext; simp [esc]
      have hs3 : t3.size = 6 := by rw [hesc]; simp [ByteArray.size, esc]
      obtain ⟨t4, h4, g4⟩ := cat acc t3 (by rw [hsz, hs3]; omega)
      have hfin : t4 = ⟨(half ys (k + 1)).toArray⟩ := by rw [g4, hacc, hesc, HE.out]; apply ByteArray.ext; simp
      have HF := Lib.hid hfin
      clear hacc hsz a0 e1 e0 ht2 g3 hesc hs3 g4 hfin HE
      go_wp2_with fail
      go_region
      all_goals
        go_wp2
        go_roundw
        case rel => exact ⟨k + 1, by omega, by go_num, by rw [HF.out], (hbl.alloc hbl.size _).drew⟩
        case measure => simp [intOf]; omega
    · have hkn : k = ys.length := by omega
      subst hkn
      obtain ⟨t4, h4, g4⟩ := cat acc ⟨#[34]⟩ (by rw [hsz]; simp [ByteArray.size]; omega)
      have hfin : t4 = ⟨(quoted ys).toArray⟩ := by rw [g4, hacc, ← half_end]; apply ByteArray.ext; simp
      have HF := Lib.hid hfin
      clear hacc hsz g4 hfin
      go_wp2
      go_ret
      rw [HF.out]
      exact ⟨rfl, hbl⟩
end Go.Proofs.YtcncniomjkjamaaDoor
