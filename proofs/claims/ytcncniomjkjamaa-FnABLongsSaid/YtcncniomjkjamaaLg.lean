/- FnABLongs: the law's walk. -/
import Derived.Test.YtcncniomjkjamaaW4
import Derived.Test.YtcncniomjkjamaaB
namespace Go.Proofs.Ytcncniomjkjamaa
open Go.RowKit

/-- A row of at least one byte lies at the head of a block. -/
theorem own_head {w : World} {base : Nat} {v : Value} {n : Nat} {ys : List Int} (h : w.ownsRow base 5 1 v n (vals ys)) (hn : 1 ≤ n) :
    ∃ g c, v = .slice (some ⟨g, 0, none⟩) n c ∧ ∀ k, k < ys.length → w.cell? ⟨g, k, none⟩ = some (.int .u8 (ys.getD k 0)) := by
  rcases h.2 with ⟨_, h0⟩ | ⟨g, cap, cur, hv, _⟩
  · omega
  · refine ⟨g, cap, hv, fun k hk => ?_⟩
    have := h.cells (g := g) (by rw [hv]; rfl) k (.int .u8 (ys.getD k 0)) (by unfold vals; simp [hk])
    have ha : ((⟨g, 0, none⟩ : Addr).add k) = ⟨g, k, none⟩ := by unfold Addr.add; split <;> simp_all
    rw [ha] at this
    exact this

/-- Go's max of a number and its turned one, under a name of its own. -/
theorem far (a : Int) : ∃ X, X = zz a / 2 ∧ ∀ ts t w, (Builtin.max_ ts t #[.int .i64 a, .int .i64 (-1 - a)]).run Try.prog w = .ok (.int .i64 X) w :=
  ⟨zz a / 2, rfl, fun ts t w => by
    rw [run_max_int2, zz_half]
    congr 2
    split <;> omega⟩

set_option maxHeartbeats 1000000 in
theorem lawLongs (a0 : Int) (a1 : Int) (w0 : (Lit.int .i64 a0).wf = true) (w1 : (Lit.int .i64 a1).wf = true) (w : World) :
    Calls Try.prog 5 #[.int .i64 a0, .int .i64 a1] w fun e w' => e = .returned (.bool true) ∧ Below w.heap.size w w' := by
  have b0 : -9223372036854775808 ≤ a0 ∧ a0 ≤ 9223372036854775807 := by simpa [Lit.wf, IntKind.min, IntKind.max, IntKind.signed, IntKind.bits] using w0
  have b1 : -9223372036854775808 ≤ a1 ∧ a1 ≤ 9223372036854775807 := by simpa [Lit.wf, IntKind.min, IntKind.max, IntKind.signed, IntKind.bits] using w1
  clear w0 w1
  have HM := Lib.hid (enc_marks 9 (zz a0) (zz_bounds a0 b0.1 b0.2).1 (by have := (zz_bounds a0 b0.1 b0.2).2; omega))
  have HL := enc_length 9 (zz a0)
  have HO := Lib.hid (enc_len_one (zz a0))
  go_enter Try.func5, Try.ntmps5
  go_wp2_with fail
  refine (wrLong a0 false _ b0.1 b0.2).mono ?_
  rintro e wa ⟨va, rfl, oa, ba⟩
  go_wp2_with fail
  refine (wrLong a1 false _ b1.1 b1.2).mono ?_
  rintro e wb ⟨vb, rfl, ob, bb⟩
  obtain ⟨ga, ca, rfl, hca⟩ := own_head (own_below oa bb (Nat.le_refl _)) HL.1
  obtain ⟨gb, cb, rfl, _⟩ := own_head ob (enc_length 9 (zz a1)).1
  have hbb := ba.trans (bb.mono ba.size)
  clear oa ob ba bb
  have HC := Lib.hid hca
  clear hca
  obtain ⟨X, hX, hmx⟩ := far a0
  obtain ⟨Y, hY, hmy⟩ := far a1
  have hM1 := enc_len_mono 9 (zz a0) (zz a1)
  have hM2 := enc_len_mono 9 (zz a1) (zz a0)
  rw [← hX, ← hY] at hM1 hM2
  have HM1 := Lib.hid hM1
  have HM2 := Lib.hid hM2
  have HZ := Lib.hid (zz_lt128 a0)
  have HLF := enc_length 9 (zz a1)
  clear hM1 hM2 hX hY
  generalize enc 9 (zz a0) = E at HM HL HO HC HM1 HM2 ⊢
  generalize enc 9 (zz a1) = F at HLF HM1 HM2 ⊢
  go_wp2_with fail
  go_loop [7] (fun i => ∃ k : Nat, k ≤ E.length ∧ i = .int .i64 k) (fun i => E.length - (intOf i).toNat)
  case atStart => exact ⟨0, by omega, rfl⟩
  case round =>
    obtain ⟨k, hk, rfl⟩ := hrel
    by_cases hlt : k < E.length
    · have hcell := HC.out k hlt
      obtain ⟨hm, hc0, hc1⟩ := HM.out k hlt
      generalize E.getD k 0 = c at hcell hm hc0 hc1
      by_cases hl : k + 1 < E.length
      · rw [if_pos hl] at hm
        have h1 : 127 < c := by omega
        have h2 : (k : Int) < (E.length : Int) - 1 := by omega
        clear hm
        go_wp2_with fail
        go_round
        case rel => exact ⟨k + 1, by omega, by go_num⟩
        case measure => simp [intOf]; omega
      · rw [if_neg hl] at hm
        have h1 : ¬ 127 < c := by omega
        have h2 : ¬ (k : Int) < (E.length : Int) - 1 := by omega
        clear hm
        go_wp2_with fail
        go_round
        case rel => exact ⟨k + 1, by omega, by go_num⟩
        case measure => simp [intOf]; omega
    · have hkn : k = E.length := by omega
      subst hkn
      have hne0 : ((E.length : Int) == 0) = false := by rw [beq_eq_false_iff_ne]; omega
      have h10 : (E.length : Int) ≤ 10 := by omega
      have hq : (((E.length : Int) == 1) = true ∧ -64 ≤ a0 ∧ a0 < 64) ∨ (((E.length : Int) == 1) = false ∧ a0 < -64) ∨ (((E.length : Int) == 1) = false ∧ 64 ≤ a0) := by
        rw [beq_iff_eq, beq_eq_false_iff_ne]
        have h1 := HO.out
        have h2 := HZ.out
        omega
      have ho : (X < Y ∧ (E.length : Int) ≤ F.length) ∨ (Y < X ∧ (F.length : Int) ≤ E.length) ∨ (X ≤ Y ∧ Y ≤ X ∧ (E.length : Int) ≤ F.length ∧ (F.length : Int) ≤ E.length) := by
        have h1 := HM1.out
        have h2 := HM2.out
        omega
      clear HM1 HM2 HO HZ HM HC
      rcases hq with ⟨q1, q2, q3⟩ | ⟨q1, q2⟩ | ⟨q1, q2⟩
      all_goals rcases ho with ⟨o1, o2⟩ | ⟨o1, o2⟩ | ⟨o1, o2, o3, o4⟩
      all_goals go_wp2_with fail
      all_goals (go_ret; exact ⟨rfl, hbb⟩)
end Go.Proofs.Ytcncniomjkjamaa
