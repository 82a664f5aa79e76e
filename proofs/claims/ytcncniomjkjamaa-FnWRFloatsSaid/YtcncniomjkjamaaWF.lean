/- FnWRFloats: the law's walk. -/
import Derived.Test.YtcncniomjkjamaaW4
namespace Go.Proofs.Ytcncniomjkjamaa
open Go.RowKit

set_option maxHeartbeats 1000000 in
theorem lawFloats (a0 : Int) (a1 : Int) (a2 : Bool) (w0 : (Lit.int .u64 a0).wf = true) (w1 : (Lit.int .u32 a1).wf = true) (w : World) :
    Calls Try.prog 4 #[.int .u64 a0, .int .u32 a1, .bool a2] w fun e w' => e = .returned (.bool true) ∧ Below w.heap.size w w' := by
  have b0 : 0 ≤ a0 ∧ a0 < 2 ^ 64 := by simp [Lit.wf, IntKind.min, IntKind.max, IntKind.signed, IntKind.bits] at w0; omega
  have b1 : 0 ≤ a1 ∧ a1 < 2 ^ 32 := by simp [Lit.wf, IntKind.min, IntKind.max, IntKind.signed, IntKind.bits] at w1; omega
  clear w0 w1
  have h64 : a1 < 2 ^ 64 := by omega
  go_enter Try.func4, Try.ntmps4
  go_wp2_with fail
  refine (wrDouble a0 a2 _ b0.1 b0.2).mono ?_
  rintro e wa ⟨va, rfl, oa, ba⟩
  go_wp2_with fail
  refine (wrBits a0 8 _ b0.1 b0.2 (by omega)).mono ?_
  rintro e wb ⟨vb, rfl, ob, bb⟩
  have sa := own_src_after oa bb
  have sb := own_src ob
  have hbb := ba.trans (bb.mono ba.size)
  clear oa ob ba bb
  go_wp2_with fail
  refine (equal va vb (fb a0 8) _ sa sb).mono ?_
  rintro e wb' ⟨rfl, rfl⟩
  clear sa sb
  go_wp2_with fail
  refine (wrFloat a1 a2 _ b1.1 b1.2).mono ?_
  rintro e wc ⟨vc, rfl, oc, bc⟩
  have hbc := hbb.trans (bc.mono hbb.size)
  clear hbb
  go_wp2_with fail
  refine (wrBits a1 4 _ b1.1 h64 (by omega)).mono ?_
  rintro e wd ⟨vd, rfl, od, bd⟩
  have sc := own_src_after oc bd
  have sd := own_src od
  have hbd := hbc.trans (bd.mono hbc.size)
  clear oc od bc bd hbc
  go_wp2_with fail
  refine (equal vc vd (fb a1 4) _ sc sd).mono ?_
  rintro e wd' ⟨rfl, rfl⟩
  go_wp2_with fail
  go_ret
  exact ⟨rfl, hbd⟩
end Go.Proofs.Ytcncniomjkjamaa
