/- The writers of truth values, bytes and texts. -/
import Derived.Test.YtcncniomjkjamaaW4
namespace Go.Proofs.Ytcncniomjkjamaa
open Go.RowKit

@[go_sem] theorem make1 (w : World) : (Instr.makeSlice 29 (.int .i64 1) (.int .i64 1)).run Try.prog w = .ok (.slice (some ⟨w.heap.size, 0, none⟩) 1 1) (w.alloc (.cells #[.int .u8 0] 5)) := by kernel_rfl

def bit (r : Bool) : Int := if r then 1 else 0

theorem src_new (w : World) (y : Int) : Src (.slice (some ⟨w.heap.size, 0, none⟩) 1 1) [y] (w.alloc (.cells #[.int .u8 y] 5)) :=
  .inr ⟨⟨w.heap.size, 0, none⟩, 1, rfl, cell_one_new _ _ _⟩

set_option maxHeartbeats 800000 in
theorem writeBool (T b : Nat) (hT : T = 66 ∨ T = 69) (r : Bool) (xs : List Int) (w : World) (hw : Wr b xs w) (hm : xs.length + 10 ≤ 4096) :
    Calls Try.prog 39 #[.bool r, .iface T (.pointer (some ⟨b, 0, none⟩))] w (Wrote b (xs ++ [bit r]) .nilIface w) := by
  have hl1 : xs.length + 1 ≤ 4096 := by omega
  have hb := hw.1
  rcases hT with rfl | rfl
  · cases r
    · go_enter Try.func39, Try.ntmps39
      go_wp2_with fail
      refine (plainWrite b xs [0] _ _ (wr_old hw _) (src_new w 0) hl1).mono ?_
      rintro e w2 ⟨rfl, hw2, hb2⟩
      go_wp2_with fail
      go_ret
      exact ⟨rfl, hw2, ((Below.refl b w).alloc (by omega) _).trans hb2⟩
    · go_enter Try.func39, Try.ntmps39
      go_wp2_with fail
      refine (plainWrite b xs [1] _ _ (wr_old hw _) (src_new w 1) hl1).mono ?_
      rintro e w2 ⟨rfl, hw2, hb2⟩
      go_wp2_with fail
      go_ret
      exact ⟨rfl, hw2, ((Below.refl b w).alloc (by omega) _).trans hb2⟩
  · cases r
    · go_enter Try.func39, Try.ntmps39
      go_wp2_with (go_at_call 66; refine (bufByte b _ _ _ hw hl1).mono ?_; rintro e w1 ⟨rfl, hw1, hb1⟩)
      go_ret
      exact ⟨rfl, hw1, hb1⟩
    · go_enter Try.func39, Try.ntmps39
      go_wp2_with (go_at_call 66; refine (bufByte b _ _ _ hw hl1).mono ?_; rintro e w1 ⟨rfl, hw1, hb1⟩)
      go_ret
      exact ⟨rfl, hw1, hb1⟩

/-- The slice value sv reads as the bytes ys, which lie below block b. -/
def SrcB (b : Nat) (sv : Value) (ys : List Int) (w : World) : Prop :=
  (sv = .slice none 0 0 ∧ ys = []) ∨ ∃ ad c, sv = .slice (some ad) ys.length c ∧ (∀ j u, (vals ys)[j]? = some u → ad.block < b ∧ w.cell? (ad.add j) = some u)

theorem add_block (ad : Addr) (j : Nat) : (ad.add j).block = ad.block := by unfold Addr.add; split <;> rfl

theorem SrcB.after {b : Nat} {sv : Value} {ys : List Int} {w w' : World} (h : SrcB b sv ys w) (hb : Below b w w') : Src sv ys w' := by
  rcases h with ⟨h1, h2⟩ | ⟨ad, c, h1, h3⟩
  · exact .inl ⟨h1, h2⟩
  · exact .inr ⟨ad, c, h1, fun j u hu => (hb.cell (p := ad.add j) (by rw [add_block]; exact (h3 j u hu).1)).trans (h3 j u hu).2⟩

theorem SrcB.slice {b : Nat} {sv : Value} {ys : List Int} {w : World} (h : SrcB b sv ys w) : ∃ oa c, sv = .slice oa ys.length c := by
  rcases h with ⟨rfl, rfl⟩ | ⟨ad, c, rfl, _⟩
  · exact ⟨_, _, rfl⟩
  · exact ⟨_, _, rfl⟩

set_option maxHeartbeats 800000 in
theorem writeBytes (T b : Nat) (hT : T = 66 ∨ T = 69) (sv : Value) (ys : List Int) (w : World) (hw : Wr b [] w) (hs : SrcB b sv ys w) (hm : ys.length ≤ 400) :
    Calls Try.prog 33 #[sv, .iface T (.pointer (some ⟨b, 0, none⟩))] w (Wrote b (enc 9 (zz ys.length) ++ ys) .nilIface w) := by
  have hl : (enc 9 (zz ys.length)).length + ys.length ≤ 4096 := by have := (enc_length 9 (zz ys.length)).2; omega
  obtain ⟨oa, c, rfl⟩ := hs.slice
  go_enter Try.func33, Try.ntmps33
  go_wp2_with fail
  refine (writeLong T b hT (ys.length : Int) [] _ hw (by omega) (by omega) (by decide)).mono ?_
  rintro e w1 ⟨rfl, hw1, hb1⟩
  rw [List.nil_append] at hw1
  have hs1 := hs.after hb1
  have HS := Lib.hid hs1
  clear hs hs1
  rcases hT with rfl | rfl
  all_goals
    go_wp2_with fail
    refine (plainWrite b (enc 9 (zz ys.length)) ys _ _ hw1 HS.out hl).mono ?_
    rintro e w2 ⟨rfl, hw2, hb2⟩
    go_wp2_with fail
    go_ret
    exact ⟨rfl, hw2, hb1.trans hb2⟩
end Go.Proofs.Ytcncniomjkjamaa
