/- FnUTTexts: the law's walk. -/
import Derived.Test.YtcncniomjkjamaaDoorD3
import Derived.Test.YtcncniomjkjamaaDoorD5
import Derived.Laws.BytesArg
import Derived.OpenShut
namespace Go.Proofs.YtcncniomjkjamaaDoor
open Go.RowKit

theorem conv_row (sv : Value) (ys : List Int) (w : World) (h : Row sv ys w) : (convert 22 9 sv).run Tryd.prog w = .ok (.string (strOfNums ys)) w := by
  rcases h with ⟨rfl, rfl⟩ | ⟨ad, c, rfl, hc⟩
  · exact run_convert_bytes_nil w 22 5 Tryd.underlying22 Tryd.underlying5 0 0 9 Tryd.underlying9
  · have hl := run_loadCells_list (P := Tryd.prog) w ad (ys.map (Value.int .u8)) (fun j u hu => by
      have hj : j < (ys.map (Value.int .u8)).length := (List.getElem?_eq_some_iff.1 hu).1
      rw [List.length_map] at hj
      obtain ⟨b, o, rfl, _, hcell⟩ := hc j hj
      have ha : ((⟨b, o, none⟩ : Addr).add j) = ⟨b, o + j, none⟩ := by unfold Addr.add; split <;> simp_all
      rw [ha, hcell]
      simp [hj] at hu
      simp [hj, hu])
    rw [List.length_map] at hl
    rw [run_convert_bytes_string w 22 9 5 _ ys.length c Tryd.underlying22 Tryd.underlying5 Tryd.underlying9, run_bytesToString w _ ys.length c ys hl, foldl_push_bytes]
    simp [strOfNums, ByteArray.empty, ByteArray.emptyWithCapacity]
    rfl

set_option maxHeartbeats 400000 in
theorem equal (a b : Value) (ys : List Int) (w : World) (ha : Row a ys w) (hb : Row b ys w) :
    Calls Tryd.prog 6 #[a, b] w fun e w' => e = .returned (.bool true) ∧ w = w' := by
  have h1 := conv_row a ys w ha
  have h2 := conv_row b ys w hb
  go_enter Tryd.func6, Tryd.ntmps6
  go_wp2
  go_ret
  exact ⟨rfl, rfl⟩

set_option maxHeartbeats 400000 in
theorem implDecode (s : ByteArray) (ys : List Int) (w : World) (hs : s = ⟨(txt ys).toArray⟩) (hy : ∀ y ∈ ys, 0 ≤ y ∧ y < 256) (hm : ys.length ≤ 100) (hT : Lib.Utf8Tabs 0 1 w) :
    Calls Tryd.prog 7 #[.string s] w (Bytes ys w) := by
  have HS := Lib.hid hs
  have HT := Lib.hid hT
  clear hs hT
  go_enter Tryd.func7, Tryd.ntmps7
  go_wp2_with fail
  refine (decodeText s ys _ HS.out hy hm HT.out).mono ?_
  rintro e w' ⟨v, rfl, hr, hb⟩
  go_wp2_with fail
  go_ret
  exact ⟨v, rfl, hr, hb⟩

/-- What the walk is told of a slice of bytes that came in: it is nil; or it leads to a row of 'cap' cells. -/
def IsRow (k : IntKind) (w : World) (a : Option Addr) (len cap : Nat) (zs : List Int) : Prop :=
  (a = none ∧ len = 0 ∧ cap = 0 ∧ zs = []) ∨
  ∃ x, a = some x ∧ len ≤ cap ∧ cap ≤ maxLen ∧ zs.length = cap ∧ (∀ i, i < zs.length → w.cell? (x.add i) = some (.int k (zs.getD i 0))) ∧ ∀ n ∈ zs, (Lit.int k n).wf = true

theorem row_of {w : World} {a : Option Addr} {len cap : Nat} {zs : List Int} (h : IsRow .u8 w a len cap zs) : Row (.slice a len cap) (zs.take len) w ∧ (zs.take len).length = len ∧ ∀ n ∈ zs.take len, 0 ≤ n ∧ n < 256 := by
  rcases h with ⟨rfl, rfl, rfl, rfl⟩ | ⟨x, rfl, h1, h2, h3, h4, h5⟩
  · exact ⟨.inl ⟨rfl, rfl⟩, rfl, fun n hn => by simp at hn⟩
  · have hl : (zs.take len).length = len := by rw [List.length_take]; omega
    have hn : ∀ n ∈ zs.take len, 0 ≤ n ∧ n < 256 := fun n hn => by
      have := h5 n (List.mem_of_mem_take hn)
      simp [Lit.wf, IntKind.min, IntKind.max, IntKind.signed, IntKind.bits] at this
      omega
    refine ⟨.inr ⟨x, cap, by rw [hl], fun j hj => ?_⟩, hl, hn⟩
    rw [hl] at hj
    obtain ⟨b, o, e, hc⟩ := ints_at h4 (by omega)
    have hcj := hc j (by omega)
    refine ⟨b, o, e, World.block_lt_of_cell? w ⟨b, o + j, none⟩ hcj, ?_⟩
    rw [hcj]
    have hz : j < zs.length := by omega
    simp [hj, hz]

theorem row_new (w : World) (y : Int) : Row (.slice (some ⟨w.heap.size, 0, none⟩) 1 1) [y] (w.alloc (.cells #[.int .u8 y] 5)) :=
  .inr ⟨⟨w.heap.size, 0, none⟩, 1, rfl, fun j hj => ⟨w.heap.size, 0, rfl, by simp, by
    obtain rfl : j = 0 := by simpa using hj
    rw [World.cell?_alloc_at _ _ _ _ rfl]; rfl⟩⟩

theorem quoted_255 : quoted [255] = [34, 92, 117, 48, 48, 102, 102, 34] := by decide +kernel

set_option maxRecDepth 100000 in
set_option maxHeartbeats 1000000 in
theorem law (a0 : Option Addr) (len0 cap0 : Nat) (z0 : List Int) (w : World) (w0 : IsRow .u8 w a0 len0 cap0 z0) (hT : Lib.Utf8Tabs 0 1 w) :
    Calls Tryd.prog 3 #[.slice a0 len0 cap0] w fun e w' => e = .returned (.bool true) ∧ Below w.heap.size w w' := by
  have HT := Lib.hid hT
  clear hT
  by_cases h100 : len0 ≤ 100
  · obtain ⟨hs, hl, hy⟩ := row_of w0
    generalize z0.take len0 = ys at hs hl hy
    have HS := Lib.hid hs
    have HY := Lib.hid hy
    have hm : ys.length ≤ 100 := by omega
    clear w0 hs hl hy
    obtain ⟨q, hq⟩ : ∃ q : ByteArray, q = ⟨(quoted ys).toArray⟩ := ⟨_, rfl⟩
    obtain ⟨s, hs⟩ : ∃ s : ByteArray, s = ⟨(txt ys).toArray⟩ := ⟨_, rfl⟩
    have HQ := Lib.hid hq
    have HX := Lib.hid hs
    clear hq hs
    go_enter Tryd.func3, Tryd.ntmps3
    go_wp2_with fail
    refine (implEncode _ ys _ HS.out HY.out hm).mono ?_
    rintro e w1 ⟨he, b1⟩
    rw [← HQ.out] at he
    subst he
    go_wp2_with fail
    refine (specEncode _ ys _ (HS.out.below b1) HY.out hm).mono ?_
    rintro e w2 ⟨he, b2⟩
    rw [← HQ.out] at he
    subst he
    have c2 := b1.trans (b2.mono b1.size)
    clear b1 b2
    go_wp2_with fail
    refine (specText _ ys _ (HS.out.below c2) HY.out hm).mono ?_
    rintro e w3 ⟨he, b3⟩
    rw [← HX.out] at he
    subst he
    have c3 := c2.trans (b3.mono c2.size)
    clear c2 b3
    go_wp2_with fail
    refine (implDecode s ys _ HX.out HY.out hm (Utf8Tabs_below HT.out c3)).mono ?_
    rintro e w4 ⟨v, rfl, hr, b4⟩
    have c4 := c3.trans (b4.mono c3.size)
    have HR := Lib.hid hr
    clear c3 b4 hr
    go_wp2_with fail
    refine (equal v _ ys _ HR.out (HS.out.below c4)).mono ?_
    rintro e w5 ⟨rfl, rfl⟩
    have c5 := c4.alloc c4.size (.cells #[.int .u8 255] 5)
    go_wp2_with fail
    refine (implEncode _ [255] _ (row_new w4 255) (by simp) (by simp)).mono ?_
    rintro e w6 ⟨he, b6⟩
    rw [quoted_255] at he
    subst he
    have c6 := c5.trans (b6.mono c5.size)
    clear c5 b6
    go_wp2_with fail
    go_ret
    exact ⟨rfl, c6⟩
  · go_enter Tryd.func3, Tryd.ntmps3
    go_wp2
    all_goals (go_ret; exact ⟨rfl, Below.refl _ _⟩)
end Go.Proofs.YtcncniomjkjamaaDoor
