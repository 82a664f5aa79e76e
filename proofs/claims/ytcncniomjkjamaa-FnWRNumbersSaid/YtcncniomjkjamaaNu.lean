/- FnWRNumbers: the law's walk. -/
import Derived.Test.YtcncniomjkjamaaW6
namespace Go.Proofs.Ytcncniomjkjamaa
open Go.RowKit

theorem Src.below {sv : Value} {b : Nat} {y : Int} {w w' : World} (h : w.cell? ⟨b, 0, none⟩ = some (.int .u8 y)) (hb : Below w.heap.size w w') (hl : b < w.heap.size) (hs : sv = .slice (some ⟨b, 0, none⟩) 1 1) : Src sv [y] w' := by
  subst hs
  refine .inr ⟨⟨b, 0, none⟩, 1, rfl, fun j u hu => ?_⟩
  cases j with
  | succ j => simp [vals] at hu
  | zero =>
    simp [vals] at hu
    subst hu
    rw [show ((⟨b, 0, none⟩ : Addr).add 0) = ⟨b, 0, none⟩ from rfl]
    exact (hb.cell (p := ⟨b, 0, none⟩) hl).trans h

set_option maxHeartbeats 1000000 in
theorem lawNumbers (a0 : Int) (a1 : Int) (a2 : Bool) (a3 : Bool) (w0 : (Lit.int .i64 a0).wf = true) (w1 : (Lit.int .i32 a1).wf = true) (w : World) :
    Calls Try.prog 7 #[.int .i64 a0, .int .i32 a1, .bool a2, .bool a3] w fun e w' => e = .returned (.bool true) ∧ Below w.heap.size w w' := by
  have b0 : -9223372036854775808 ≤ a0 ∧ a0 ≤ 9223372036854775807 := by simpa [Lit.wf, IntKind.min, IntKind.max, IntKind.signed, IntKind.bits] using w0
  have b1 : -2147483648 ≤ a1 ∧ a1 ≤ 2147483647 := by simpa [Lit.wf, IntKind.min, IntKind.max, IntKind.signed, IntKind.bits] using w1
  clear w0 w1
  have hA : ∀ y : Int, (w.alloc (.cells #[.int .u8 y] 5)).cell? ⟨w.heap.size, 0, none⟩ = some (.int .u8 y) := fun y => by rw [World.cell?_alloc_at _ _ _ _ rfl]; rfl
  have hB : ∀ y : Int, Below w.heap.size w (w.alloc (.cells #[.int .u8 y] 5)) := fun y => (Below.refl _ _).alloc (Nat.le_refl _) _
  have HA := Lib.hid hA
  have HB := Lib.hid hB
  clear hA hB
  cases a2
  · go_enter Try.func7, Try.ntmps7
    go_wp2_with fail
    refine (wrLong a0 a3 _ b0.1 b0.2).mono ?_
    rintro e wa ⟨va, rfl, oa, ba⟩
    go_wp2_with fail
    refine (specLong a0 _ b0.1 b0.2).mono ?_
    rintro e wb ⟨vb, rfl, ob, bb⟩
    have sa := own_src_after oa bb
    have sb := own_src ob
    have hbb := ba.trans (bb.mono ba.size)
    clear oa ob ba bb
    go_wp2_with fail
    refine (equal va vb (enc 9 (zz a0)) _ sa sb).mono ?_
    rintro e wb' ⟨rfl, rfl⟩
    clear sa sb
    go_wp2_with fail
    refine (wrInt a1 a3 _ b1.1 b1.2).mono ?_
    rintro e wc ⟨vc, rfl, oc, bc⟩
    have hbc := hbb.trans (bc.mono hbb.size)
    clear hbb
    go_wp2_with fail
    refine (specLong a1 _ (by omega) (by omega)).mono ?_
    rintro e wd ⟨vd, rfl, od, bd⟩
    have sc := own_src_after oc bd
    have sd := own_src od
    have hbd := hbc.trans (bd.mono hbc.size)
    clear oc od bc bd hbc
    go_wp2_with fail
    refine (equal vc vd (enc 9 (zz a1)) _ sc sd).mono ?_
    rintro e wd' ⟨rfl, rfl⟩
    clear sc sd
    go_wp2_with fail
    refine (wrBool false a3 _).mono ?_
    rintro e we ⟨ve, rfl, oe, be⟩
    have hbe := hbd.trans (be.mono hbd.size)
    have se : Src ve [0] we := own_src oe
    have sf : Src (.slice (some ⟨w.heap.size, 0, none⟩) 1 1) [0] we := Src.below (HA.out 0) hbe (by simp) rfl
    clear oe be hbd
    go_wp2_with fail
    refine (equal ve _ [0] _ se sf).mono ?_
    rintro e we' ⟨rfl, rfl⟩
    go_wp2_with fail
    go_ret
    exact ⟨rfl, (HB.out 0).trans (hbe.mono (by simp))⟩
  · go_enter Try.func7, Try.ntmps7
    go_wp2_with fail
    refine (wrLong a0 a3 _ b0.1 b0.2).mono ?_
    rintro e wa ⟨va, rfl, oa, ba⟩
    go_wp2_with fail
    refine (specLong a0 _ b0.1 b0.2).mono ?_
    rintro e wb ⟨vb, rfl, ob, bb⟩
    have sa := own_src_after oa bb
    have sb := own_src ob
    have hbb := ba.trans (bb.mono ba.size)
    clear oa ob ba bb
    go_wp2_with fail
    refine (equal va vb (enc 9 (zz a0)) _ sa sb).mono ?_
    rintro e wb' ⟨rfl, rfl⟩
    clear sa sb
    go_wp2_with fail
    refine (wrInt a1 a3 _ b1.1 b1.2).mono ?_
    rintro e wc ⟨vc, rfl, oc, bc⟩
    have hbc := hbb.trans (bc.mono hbb.size)
    clear hbb
    go_wp2_with fail
    refine (specLong a1 _ (by omega) (by omega)).mono ?_
    rintro e wd ⟨vd, rfl, od, bd⟩
    have sc := own_src_after oc bd
    have sd := own_src od
    have hbd := hbc.trans (bd.mono hbc.size)
    clear oc od bc bd hbc
    go_wp2_with fail
    refine (equal vc vd (enc 9 (zz a1)) _ sc sd).mono ?_
    rintro e wd' ⟨rfl, rfl⟩
    clear sc sd
    go_wp2_with fail
    refine (wrBool true a3 _).mono ?_
    rintro e we ⟨ve, rfl, oe, be⟩
    have hbe := hbd.trans (be.mono hbd.size)
    have se : Src ve [1] we := own_src oe
    have sf : Src (.slice (some ⟨w.heap.size, 0, none⟩) 1 1) [1] we := Src.below (HA.out 1) hbe (by simp) rfl
    clear oe be hbd
    go_wp2_with fail
    refine (equal ve _ [1] _ se sf).mono ?_
    rintro e we' ⟨rfl, rfl⟩
    go_wp2_with fail
    go_ret
    exact ⟨rfl, (HB.out 1).trans (hbe.mono (by simp))⟩
end Go.Proofs.Ytcncniomjkjamaa
