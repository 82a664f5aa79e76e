/- FnWRTexts: the law's walk. -/
import Derived.Test.YtcncniomjkjamaaW6
namespace Go.Proofs.Ytcncniomjkjamaa
open Go.RowKit

/-- What the walk is told of a slice of bytes that came in: it is nil; or it leads to a row of 'cap' cells. -/
def IsRow (k : IntKind) (w : World) (a : Option Addr) (len cap : Nat) (zs : List Int) : Prop :=
  (a = none ∧ len = 0 ∧ cap = 0 ∧ zs = []) ∨
  ∃ x, a = some x ∧ len ≤ cap ∧ cap ≤ maxLen ∧ zs.length = cap ∧ (∀ i, i < zs.length → w.cell? (x.add i) = some (.int k (zs.getD i 0))) ∧ ∀ n ∈ zs, (Lit.int k n).wf = true

theorem row_srcB {w : World} {a : Option Addr} {len cap : Nat} {zs : List Int} (h : IsRow .u8 w a len cap zs) : SrcB w.heap.size (.slice a len cap) (zs.take len) w ∧ (zs.take len).length = len ∧ ∀ n ∈ zs.take len, 0 ≤ n ∧ n < 256 := by
  rcases h with ⟨rfl, rfl, rfl, rfl⟩ | ⟨x, rfl, h1, h2, h3, h4, h5⟩
  · exact ⟨.inl ⟨rfl, rfl⟩, rfl, fun n hn => by simp at hn⟩
  · have hl : (zs.take len).length = len := by rw [List.length_take]; omega
    have hn : ∀ n ∈ zs.take len, 0 ≤ n ∧ n < 256 := fun n hn => by
      have := h5 n (List.mem_of_mem_take hn)
      simp [Lit.wf, IntKind.min, IntKind.max, IntKind.signed, IntKind.bits] at this
      omega
    refine ⟨?_, hl, hn⟩
    refine .inr ⟨x, cap, by rw [hl], fun j u hu => ?_⟩
    have hj : j < (vals (zs.take len)).length := (List.getElem?_eq_some_iff.1 hu).1
    rw [vals_length, hl] at hj
    have hz : j < zs.length := by omega
    have hc := h4 j hz
    have hb := World.block_lt_of_cell? w _ hc
    rw [add_block] at hb
    refine ⟨hb, ?_⟩
    rw [hc]
    simp [vals, hj, hz] at hu
    simp [hz, hu]


theorem nums_str (ys : List Int) (h : ∀ n ∈ ys, 0 ≤ n ∧ n < 256) : nums (strOfNums ys) = ys := by
  unfold nums
  rw [strOfNums_data, List.map_map]
  have e : ∀ n ∈ ys, ((fun c : UInt8 => (c.toNat : Int)) ∘ fun n : Int => UInt8.ofNat n.toNat) n = n := fun n hn => by
    have := h n hn
    simp [Function.comp]
    omega
  rw [List.map_congr_left e]
  simp

theorem SrcB.src {b : Nat} {sv : Value} {ys : List Int} {w : World} (h : SrcB b sv ys w) : Src sv ys w := h.after (Below.refl _ _)

set_option maxHeartbeats 1000000 in
theorem lawTexts (a0 : Option Addr) (len0 cap0 : Nat) (z0 : List Int) (a1 : Bool) (w : World) (w0 : IsRow .u8 w a0 len0 cap0 z0) :
    Calls Try.prog 6 #[.slice a0 len0 cap0, .bool a1] w fun e w' => e = .returned (.bool true) ∧ Below w.heap.size w w' := by
  by_cases h300 : len0 ≤ 300
  · obtain ⟨hs, hl, hb⟩ := row_srcB w0
    generalize z0.take len0 = ys at hs hl hb
    have hn := nums_str ys hb
    have hz : (strOfNums ys).size = len0 := by rw [strOfNums_size, hl]
    have hc := conv_src _ ys w hs.src
    have HS := Lib.hid hs
    clear w0 hs hb
    obtain ⟨s, hd⟩ : ∃ s, s = strOfNums ys := ⟨_, rfl⟩
    rw [← hd] at hn hz hc
    have HD := Lib.hid hd
    clear hd
    have HN := Lib.hid hn
    have HL := Lib.hid hl
    have HZ := Lib.hid hz
    clear hn hl hz
    have hs4 : s.size ≤ 400 := by rw [HZ.out]; omega
    have hy4 : ys.length ≤ 400 := by rw [HL.out]; omega
    go_enter Try.func6, Try.ntmps6
    go_wp2_with fail
    refine (specString s _ hs4).mono ?_
    rintro e wa ⟨va, rfl, oa, ba⟩
    rw [HZ.out, HN.out] at oa
    go_wp2_with fail
    refine (wrBytes _ ys a1 _ (HS.out.below ba ba.size) hy4).mono ?_
    rintro e wb ⟨vb, rfl, ob, bb⟩
    rw [HL.out] at ob
    have oa2 := own_below oa bb (Nat.le_refl _)
    have sa := own_src oa2
    have sb := own_src ob
    have hbb := ba.trans (bb.mono ba.size)
    clear oa ob ba bb
    go_wp2_with fail
    refine (equal vb va _ _ sb sa).mono ?_
    rintro e wb' ⟨rfl, rfl⟩
    have hc2 := conv_src _ ys wb (HS.out.after hbb)
    rw [← HD.out] at hc2
    clear sb sa hc
    go_wp2_with fail
    refine (wrString s a1 _ hs4).mono ?_
    rintro e wc ⟨vc, rfl, oc, bc⟩
    rw [HZ.out, HN.out] at oc
    have sc := own_src oc
    have sa := own_src_after oa2 bc
    have hbc := hbb.trans (bc.mono hbb.size)
    clear oc bc
    go_wp2_with fail
    refine (equal vc va _ _ sc sa).mono ?_
    rintro e wc' ⟨rfl, rfl⟩
    go_wp2_with fail
    go_ret
    exact ⟨rfl, hbc⟩
  · go_enter Try.func6, Try.ntmps6
    go_wp2
    all_goals (go_ret; exact ⟨rfl, Below.refl _ _⟩)
end Go.Proofs.Ytcncniomjkjamaa
