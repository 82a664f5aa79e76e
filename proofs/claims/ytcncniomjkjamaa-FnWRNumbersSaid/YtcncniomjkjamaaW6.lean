/- WriteString, the reference's WRString, and what WRBool, WRBytes and WRString of package impl return. -/
import Derived.Test.YtcncniomjkjamaaW5
namespace Go.Proofs.Ytcncniomjkjamaa
open Go.RowKit

/-- A text's bytes as numbers. -/
def nums (s : ByteArray) : List Int := s.data.toList.map fun c => (c.toNat : Int)
theorem nums_length (s : ByteArray) : (nums s).length = s.size := by simp [nums]
theorem nums_at (s : ByteArray) (j : Nat) (u : Value) (h : (vals (nums s))[j]? = some u) : ∃ hj : j < s.size, u = .int .u8 (s[j].toNat : Int) := by
  have hj : j < (vals (nums s)).length := (List.getElem?_eq_some_iff.1 h).1
  rw [vals_length, nums_length] at hj
  refine ⟨hj, ?_⟩
  have hd : j < s.data.size := hj
  simp [vals, nums] at h
  obtain ⟨a, ha, rfl⟩ := h
  rw [Array.getElem?_eq_getElem hd, Option.some.injEq] at ha
  subst ha
  rfl

theorem bytes_row (w : World) (s : ByteArray) : ∃ C cap, (convert 9 29 (.string s)).run Try.prog w = .ok (.slice (some ⟨w.heap.size, 0, none⟩) s.size cap) (w.drew.alloc (.cells C 5 (C.size, C.size + 1)))
    ∧ Src (.slice (some ⟨w.heap.size, 0, none⟩) s.size cap) (nums s) (w.alloc (.cells C 5 (C.size, C.size + 1))).drew := by
  refine ⟨_, _, run_bytes_of_string w 9 29 5 s Try.underlying9 Try.underlying29 Try.underlying5, .inr ⟨⟨w.heap.size, 0, none⟩, _, by rw [nums_length], fun j u hu => ?_⟩⟩
  obtain ⟨hj, rfl⟩ := nums_at s j u hu
  have ha : ((⟨w.heap.size, 0, none⟩ : Addr).add j) = ⟨w.heap.size, j, none⟩ := by unfold Addr.add; split <;> simp_all
  rw [ha]
  exact (World.cell?_alloc_mark _ _ _ _ _).trans (bytesRow_at s _ j hj)

set_option maxHeartbeats 800000 in
theorem writeString (T b : Nat) (hT : T = 66 ∨ T = 69) (s : ByteArray) (w : World) (hw : Wr b [] w) (hm : s.size ≤ 400) :
    Calls Try.prog 35 #[.string s, .iface T (.pointer (some ⟨b, 0, none⟩))] w (Wrote b (enc 9 (zz s.size) ++ nums s) .nilIface w) := by
  have hl : (enc 9 (zz s.size)).length + s.size ≤ 4096 := by have := (enc_length 9 (zz s.size)).2; omega
  have hl2 : (enc 9 (zz s.size)).length + (nums s).length ≤ 4096 := by rw [nums_length]; exact hl
  go_enter Try.func35, Try.ntmps35
  go_wp2_with fail
  refine (writeLong T b hT (s.size : Int) [] _ hw (by omega) (by omega) (by decide)).mono ?_
  rintro e w1 ⟨rfl, hw1, hb1⟩
  rw [List.nil_append] at hw1
  rcases hT with rfl | rfl
  · obtain ⟨C, cap, hconv, hsrc⟩ := bytes_row w1 s
    have HS := Lib.hid hsrc
    have hw2 : Wr b (enc 9 (zz s.size)) (w1.alloc (.cells C 5 (C.size, C.size + 1))).drew := hw1.below (((Below.refl _ _).alloc (Nat.le_refl _) _).drew)
    have hb := hw1.1
    clear hsrc
    go_wp2_with fail
    refine (plainWrite b (enc 9 (zz s.size)) (nums s) _ _ hw2 HS.out hl2).mono ?_
    rintro e w2 ⟨rfl, hw3, hb2⟩
    go_wp2_with fail
    go_ret
    exact ⟨rfl, hw3, hb1.trans ((((Below.refl b w1).alloc (by omega) _).drew).trans hb2)⟩
  · go_wp2_with fail
    refine (bufString b (enc 9 (zz s.size)) s _ hw1 hl).mono ?_
    rintro e w2 ⟨rfl, hw3, hb2⟩
    go_wp2_with fail
    go_ret
    exact ⟨rfl, hw3, hb1.trans hb2⟩

set_option maxHeartbeats 400000 in
theorem specString (s : ByteArray) (w : World) (hm : s.size ≤ 400) :
    Calls Try.prog 16 #[.string s] w (WRes (enc 9 (zz s.size) ++ nums s) w) := by
  obtain ⟨i0, hi, hz0, hz1, hz2⟩ := info_parts info5
  have hl := (enc_length 9 (zz s.size)).2
  have h63 : (enc 9 (zz s.size)).length + s.size ≤ maxLen := by unfold maxLen; omega
  have h47 : (enc 9 (zz s.size)).length + s.size ≤ 140737488355328 := by omega
  go_enter Try.func16, Try.ntmps16
  go_wp2_with fail
  refine (specLong (s.size : Int) _ (by omega) (by omega)).mono ?_
  rintro e w1 ⟨v, rfl, hown, hb1⟩
  have hbs := hb1.size
  go_wp2_with (at_builtin; refine Lib.wpList_append_own_string _ rfl _ _ 29 9 rfl w.heap.size 5 i0 Try.underlying29 Try.underlying9 hi hz0 hz1 hz2 _ (enc 9 (zz s.size)).length (vals (enc 9 (zz s.size))) rfl hown s rfl h63 h47 hbs ?_; intro v1 w2 hown1 hg1 _)
  go_ret
  refine ⟨v1, rfl, ?_, hb1.grown hg1 hbs (own_lt hown)⟩
  rw [vals_append, List.length_append, nums_length]
  rw [strCells_vals] at hown1
  exact hown1
theorem own_slice3 {w : World} {base e size : Nat} {v : Value} {n : Nat} {xs : List Value} (h : w.ownsRow base e size v n xs) : ∃ oa m c, v = .slice oa m c := by
  obtain ⟨oa, c, h⟩ := own_slice h
  exact ⟨oa, n, c, h⟩

theorem wres_mk {ys : List Int} {w w' : World} {e : Ending} {v : Value} (he : e = .returned v) (h : w'.ownsRow w.heap.size 5 1 v ys.length (vals ys) ∧ Below w.heap.size w w') : WRes ys w e w' := ⟨v, he, h⟩

set_option maxHeartbeats 400000 in
theorem wrBool (x : Bool) (s : Bool) (w : World)  :
    Calls Try.prog 21 #[.bool x, .bool s] w (WRes [bit x] w) := by
  cases s
  · go_enter Try.func21, Try.ntmps21
    go_wp2_with (first | (go_at_call 23; go_in) | (go_at_call 38; go_in) | fail)
    refine (writeBool 69 _ (.inr rfl) x [] _ (wrFast w _) (by decide)).mono ?_
    rintro e w' ⟨rfl, ⟨hlt, v, hc, hf, hown⟩, hb1⟩
    obtain ⟨oa, nn, cp, rfl⟩ := own_slice3 hown
    have hr := wres _ w w' _ _ _ (below3 w _ _ _) (by omega) hown hb1
    have HR := Lib.hid hr
    clear hr hown hb1
    go_wp2_with fail
    go_ret
    exact ⟨_, rfl, HR.out⟩
  · go_enter Try.func21, Try.ntmps21
    go_wp2_with (first | (go_at_call 23; go_in) | (go_at_call 38; go_in) | fail)
    refine (writeBool 66 _ (.inl rfl) x [] _ (wrSlow w _) (by decide)).mono ?_
    rintro e w' ⟨rfl, ⟨hlt, v, hc, hf, hown⟩, hb1⟩
    obtain ⟨oa, nn, cp, rfl⟩ := own_slice3 hown
    have hr := wres _ w w' _ _ _ (below3 w _ _ _) (by omega) hown hb1
    have HR := Lib.hid hr
    clear hr hown hb1
    go_wp2_with fail
    go_ret
    exact ⟨_, rfl, HR.out⟩

theorem SrcB.below {b c : Nat} {sv : Value} {ys : List Int} {w w' : World} (h : SrcB b sv ys w) (hb : Below b w w') (hc : b ≤ c) : SrcB c sv ys w' := by
  rcases h with ⟨h1, h2⟩ | ⟨ad, k, h1, h3⟩
  · exact .inl ⟨h1, h2⟩
  · exact .inr ⟨ad, k, h1, fun j u hu => ⟨by have := (h3 j u hu).1; omega, (hb.cell (p := ad.add j) (by rw [add_block]; exact (h3 j u hu).1)).trans (h3 j u hu).2⟩⟩

set_option maxHeartbeats 400000 in
theorem wrBytes (sv : Value) (ys : List Int) (s : Bool) (w : World) (hs : SrcB w.heap.size sv ys w) (hm : ys.length ≤ 400) :
    Calls Try.prog 17 #[sv, .bool s] w (WRes (enc 9 (zz ys.length) ++ ys) w) := by
  obtain ⟨oas, cs, rfl⟩ := hs.slice
  have HB := Lib.hid hs
  clear hs
  cases s
  · go_enter Try.func17, Try.ntmps17
    go_wp2_with (first | (go_at_call 23; go_in) | (go_at_call 32; go_in) | fail)
    refine (writeBytes 69 _ (.inr rfl) _ ys _ (wrFast w _) (HB.out.below (below3 w _ _ _) (by omega)) hm).mono ?_
    rintro e w' ⟨rfl, ⟨hlt, v, hc, hf, hown⟩, hb1⟩
    obtain ⟨oa, nn, cp, rfl⟩ := own_slice3 hown
    have hr := wres _ w w' _ (enc 9 (zz ys.length) ++ ys) _ (below3 w _ _ _) (by omega) hown hb1
    have HR := Lib.hid hr
    clear hr hown hb1
    go_wp2_with fail
    go_ret
    exact wres_mk rfl HR.out
  · go_enter Try.func17, Try.ntmps17
    go_wp2_with (first | (go_at_call 23; go_in) | (go_at_call 32; go_in) | fail)
    refine (writeBytes 66 _ (.inl rfl) _ ys _ (wrSlow w _) (HB.out.below (below3 w _ _ _) (by omega)) hm).mono ?_
    rintro e w' ⟨rfl, ⟨hlt, v, hc, hf, hown⟩, hb1⟩
    obtain ⟨oa, nn, cp, rfl⟩ := own_slice3 hown
    have hr := wres _ w w' _ (enc 9 (zz ys.length) ++ ys) _ (below3 w _ _ _) (by omega) hown hb1
    have HR := Lib.hid hr
    clear hr hown hb1
    go_wp2_with fail
    go_ret
    exact wres_mk rfl HR.out

set_option maxHeartbeats 400000 in
theorem wrString (x : ByteArray) (s : Bool) (w : World) (hm : x.size ≤ 400) :
    Calls Try.prog 18 #[.string x, .bool s] w (WRes (enc 9 (zz x.size) ++ nums x) w) := by
  cases s
  · go_enter Try.func18, Try.ntmps18
    go_wp2_with (first | (go_at_call 23; go_in) | (go_at_call 34; go_in) | fail)
    refine (writeString 69 _ (.inr rfl) x _ (wrFast w _) hm).mono ?_
    rintro e w' ⟨rfl, ⟨hlt, v, hc, hf, hown⟩, hb1⟩
    obtain ⟨oa, nn, cp, rfl⟩ := own_slice3 hown
    have hr := wres _ w w' _ (enc 9 (zz x.size) ++ nums x) _ (below3 w _ _ _) (by omega) hown hb1
    have HR := Lib.hid hr
    clear hr hown hb1
    go_wp2_with fail
    go_ret
    exact wres_mk rfl HR.out
  · go_enter Try.func18, Try.ntmps18
    go_wp2_with (first | (go_at_call 23; go_in) | (go_at_call 34; go_in) | fail)
    refine (writeString 66 _ (.inl rfl) x _ (wrSlow w _) hm).mono ?_
    rintro e w' ⟨rfl, ⟨hlt, v, hc, hf, hown⟩, hb1⟩
    obtain ⟨oa, nn, cp, rfl⟩ := own_slice3 hown
    have hr := wres _ w w' _ (enc 9 (zz x.size) ++ nums x) _ (below3 w _ _ _) (by omega) hown hb1
    have HR := Lib.hid hr
    clear hr hown hb1
    go_wp2_with fail
    go_ret
    exact wres_mk rfl HR.out
end Go.Proofs.Ytcncniomjkjamaa
