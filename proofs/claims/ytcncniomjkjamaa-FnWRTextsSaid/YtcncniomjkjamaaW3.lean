/- The writers of package vm, the closures of package impl, and what each returns. -/
import Derived.Test.YtcncniomjkjamaaW2
import Derived.Test.YtcncniomjkjamaaA
namespace Go.Proofs.Ytcncniomjkjamaa
open Go.RowKit

theorem encInt (T b n : Nat) (hT : T = 66 ∨ T = 69) (x : Int) (xs : List Int) (w : World) (hw : Wr b xs w) (hx : 0 ≤ x) (hx2 : x < 2 ^ 64) (hn : n ≤ 10) (hm : xs.length + 10 ≤ 4096) :
    Calls Try.prog 44 #[.iface T (.pointer (some ⟨b, 0, none⟩)), .int .i64 n, .int .u64 x] w (Wrote b (xs ++ enc 9 x) .nilIface w) := by
  rcases hT with rfl | rfl
  · exact encIntSlow b n x xs w hw hx hx2 hn hm
  · exact encIntFast b n x xs w hw hx hx2 hm

theorem encFloat (T b n : Nat) (hT : T = 66 ∨ T = 69) (x : Int) (xs : List Int) (w : World) (hw : Wr b xs w) (hx : 0 ≤ x) (hx2 : x < 2 ^ 64) (hn : n ≤ 8) (hm : xs.length + 8 ≤ 4096) :
    Calls Try.prog 42 #[.iface T (.pointer (some ⟨b, 0, none⟩)), .int .i64 n, .int .u64 x] w (Wrote b (xs ++ fb x n) .nilIface w) := by
  rcases hT with rfl | rfl
  · exact encFloatSlow b n x xs w hw hx hx2 hn hm
  · exact encFloatFast b n x xs w hw hx hx2 hn hm

set_option maxHeartbeats 400000 in
theorem writeLong (T b : Nat) (hT : T = 66 ∨ T = 69) (x : Int) (xs : List Int) (w : World) (hw : Wr b xs w) (h1 : -9223372036854775808 ≤ x) (h2 : x ≤ 9223372036854775807) (hm : xs.length + 10 ≤ 4096) :
    Calls Try.prog 31 #[.int .i64 x, .iface T (.pointer (some ⟨b, 0, none⟩))] w (Wrote b (xs ++ enc 9 (zz x)) .nilIface w) := by
  have hz := zz_bounds x h1 h2
  go_enter Try.func31, Try.ntmps31
  go_wp2_with fail
  rw [zz_long x h1 h2]
  refine (encInt T b 10 hT (zz x) xs w hw hz.1 hz.2 (by omega) hm).mono ?_
  rintro e w' ⟨rfl, hw1, hb1⟩
  go_wp2_with fail
  go_ret
  exact ⟨rfl, hw1, hb1⟩

set_option maxHeartbeats 400000 in
theorem writeInt (T b : Nat) (hT : T = 66 ∨ T = 69) (x : Int) (xs : List Int) (w : World) (hw : Wr b xs w) (h1 : -2147483648 ≤ x) (h2 : x ≤ 2147483647) (hm : xs.length + 10 ≤ 4096) :
    Calls Try.prog 37 #[.int .i32 x, .iface T (.pointer (some ⟨b, 0, none⟩))] w (Wrote b (xs ++ enc 9 (zz x)) .nilIface w) := by
  have hz := zz_bounds x (by omega) (by omega)
  go_enter Try.func37, Try.ntmps37
  go_wp2_with fail
  rw [zz_int x h1 h2]
  refine (encInt T b 5 hT (zz x) xs w hw hz.1 hz.2 (by omega) hm).mono ?_
  rintro e w' ⟨rfl, hw1, hb1⟩
  go_wp2_with fail
  go_ret
  exact ⟨rfl, hw1, hb1⟩

@[go_sem] theorem f64bits (x : Nat) (w : World) : (callFunc 41 #[.float .f64 x]).run Try.prog w = .ok (.value (.int .u64 x)) w := by kernel_rfl
@[go_sem] theorem f64from (x : Int) (w : World) : (callFunc 26 #[.int .u64 x]).run Try.prog w = .ok (.value (.float .f64 x.toNat)) w := by kernel_rfl
@[go_sem] theorem f32bits (x : Nat) (w : World) : (callFunc 43 #[.float .f32 x]).run Try.prog w = .ok (.value (.int .u32 x)) w := by kernel_rfl
@[go_sem] theorem f32from (x : Int) (w : World) : (callFunc 29 #[.int .u32 x]).run Try.prog w = .ok (.value (.float .f32 x.toNat)) w := by kernel_rfl

set_option maxHeartbeats 400000 in
theorem writeDouble (T b : Nat) (hT : T = 66 ∨ T = 69) (x : Nat) (xs : List Int) (w : World) (hw : Wr b xs w) (h2 : x < 2 ^ 64) (hm : xs.length + 10 ≤ 4096) :
    Calls Try.prog 25 #[.float .f64 x, .iface T (.pointer (some ⟨b, 0, none⟩))] w (Wrote b (xs ++ fb x 8) .nilIface w) := by
  go_enter Try.func25, Try.ntmps25
  go_wp2_with fail
  refine (encFloat T b 8 hT x xs w hw (by omega) (by omega) (by omega) (by omega)).mono ?_
  rintro e w' ⟨rfl, hw1, hb1⟩
  go_wp2_with fail
  go_ret
  exact ⟨rfl, hw1, hb1⟩

set_option maxHeartbeats 400000 in
theorem writeFloat (T b : Nat) (hT : T = 66 ∨ T = 69) (x : Nat) (xs : List Int) (w : World) (hw : Wr b xs w) (h2 : x < 2 ^ 32) (hm : xs.length + 10 ≤ 4096) :
    Calls Try.prog 28 #[.float .f32 x, .iface T (.pointer (some ⟨b, 0, none⟩))] w (Wrote b (xs ++ fb x 4) .nilIface w) := by
  go_enter Try.func28, Try.ntmps28
  go_wp2_with fail
  refine (encFloat T b 4 hT x xs w hw (by omega) (by omega) (by omega) (by omega)).mono ?_
  rintro e w' ⟨rfl, hw1, hb1⟩
  go_wp2_with fail
  go_ret
  exact ⟨rfl, hw1, hb1⟩

/-- What is handed back: a slice of the call's own, which reads as the bytes ys; nothing that was there has turned. -/
def WRes (ys : List Int) (w : World) (e : Ending) (w' : World) : Prop := ∃ v, e = .returned v ∧ w'.ownsRow w.heap.size 5 1 v ys.length (vals ys) ∧ Below w.heap.size w w'

theorem own_base {w : World} {base base' : Nat} {v : Value} {n : Nat} {xs : List Value} (h : w.ownsRow base 5 1 v n xs) (hb : base' ≤ base) : w.ownsRow base' 5 1 v n xs := by
  refine ⟨h.1, ?_⟩
  rcases h.2 with h2 | ⟨g, cap, cur, hv, hg, r⟩
  · exact .inl h2
  · exact .inr ⟨g, cap, cur, hv, Nat.le_trans hb hg, r⟩

theorem wr_new (A : World) (t : TypeId) (b : Nat) (hb : b = A.heap.size) : Wr b [] (A.alloc (.cells #[.slice none 0 0] t)) := by
  subst hb
  refine ⟨by simp, .slice none 0 0, ?_, ?_, World.ownsRow_nil _ _ _ _⟩
  · rw [World.cell?_alloc_at _ _ _ _ rfl]; rfl
  · exact World.frozen?_alloc_at _ _ _ _ rfl

theorem wr_old {A : World} {b : Nat} {xs : List Int} (h : Wr b xs A) (o : Obj) : Wr b xs (A.alloc o) := h.below ((Below.refl _ _).alloc (Nat.le_refl _) o)

theorem wres (A w w' : World) (b : Nat) (ys : List Int) (v : Value) (ha : Below w.heap.size w A) (hb : w.heap.size ≤ b) (h : w'.ownsRow (b + 1) 5 1 v ys.length (vals ys)) (hb1 : Below b A w') :
    w'.ownsRow w.heap.size 5 1 v ys.length (vals ys) ∧ Below w.heap.size w w' := ⟨own_base h (by omega), ha.trans (hb1.mono hb)⟩

theorem below3 (w : World) (o p q : Obj) : Below w.heap.size w (((w.alloc o).alloc p).alloc q) :=
  (((Below.refl _ _).alloc (Nat.le_refl _) o).alloc (by simp) p).alloc (by simp; omega) q

theorem wrSlow (w : World) (o : Obj) : Wr (w.heap.size + 1) [] (((w.alloc o).alloc (.cells #[.slice none 0 0] 68)).alloc (.cells #[.slice none 0 0] 71)) :=
  wr_old (wr_new (w.alloc o) 68 (w.heap.size + 1) (by simp)) _
theorem wrFast (w : World) (o : Obj) : Wr (w.heap.size + 1 + 1) [] (((w.alloc o).alloc (.cells #[.slice none 0 0] 68)).alloc (.cells #[.slice none 0 0] 71)) :=
  wr_new ((w.alloc o).alloc (.cells #[.slice none 0 0] 68)) 71 (w.heap.size + 1 + 1) (by simp)

set_option maxHeartbeats 400000 in
theorem wrDouble (x : Int) (s : Bool) (w : World) (h1 : 0 ≤ x) (h2 : x < 2 ^ 64) :
    Calls Try.prog 12 #[.int .u64 x, .bool s] w (WRes (fb x 8) w) := by
  have HX := Lib.hid (Int.toNat_of_nonneg h1)
  cases s
  · go_enter Try.func12, Try.ntmps12
    go_wp2_with (first | (go_at_call 23; go_in) | (go_at_call 24; go_in) | fail)
    refine (writeDouble 69 _ (.inr rfl) x.toNat [] _ (wrFast w _) (by omega) (by decide)).mono ?_
    rintro e w' ⟨rfl, ⟨hlt, v, hc, hf, hown⟩, hb1⟩
    obtain ⟨oa, cp, rfl⟩ := own_slice hown
    have hr := wres _ w w' _ _ _ (below3 w _ _ _) (by omega) hown hb1
    rw [HX.out] at hr
    have HR := Lib.hid hr
    clear hr hown hb1
    go_wp2_with fail
    go_ret
    exact ⟨_, rfl, HR.out⟩
  · go_enter Try.func12, Try.ntmps12
    go_wp2_with (first | (go_at_call 23; go_in) | (go_at_call 24; go_in) | fail)
    refine (writeDouble 66 _ (.inl rfl) x.toNat [] _ (wrSlow w _) (by omega) (by decide)).mono ?_
    rintro e w' ⟨rfl, ⟨hlt, v, hc, hf, hown⟩, hb1⟩
    obtain ⟨oa, cp, rfl⟩ := own_slice hown
    have hr := wres _ w w' _ _ _ (below3 w _ _ _) (by omega) hown hb1
    rw [HX.out] at hr
    have HR := Lib.hid hr
    clear hr hown hb1
    go_wp2_with fail
    go_ret
    exact ⟨_, rfl, HR.out⟩

set_option maxHeartbeats 400000 in
theorem wrFloat (x : Int) (s : Bool) (w : World) (h1 : 0 ≤ x) (h2 : x < 2 ^ 32) :
    Calls Try.prog 14 #[.int .u32 x, .bool s] w (WRes (fb x 4) w) := by
  have HX := Lib.hid (Int.toNat_of_nonneg h1)
  cases s
  · go_enter Try.func14, Try.ntmps14
    go_wp2_with (first | (go_at_call 23; go_in) | (go_at_call 27; go_in) | fail)
    refine (writeFloat 69 _ (.inr rfl) x.toNat [] _ (wrFast w _) (by omega) (by decide)).mono ?_
    rintro e w' ⟨rfl, ⟨hlt, v, hc, hf, hown⟩, hb1⟩
    obtain ⟨oa, cp, rfl⟩ := own_slice hown
    have hr := wres _ w w' _ _ _ (below3 w _ _ _) (by omega) hown hb1
    rw [HX.out] at hr
    have HR := Lib.hid hr
    clear hr hown hb1
    go_wp2_with fail
    go_ret
    exact ⟨_, rfl, HR.out⟩
  · go_enter Try.func14, Try.ntmps14
    go_wp2_with (first | (go_at_call 23; go_in) | (go_at_call 27; go_in) | fail)
    refine (writeFloat 66 _ (.inl rfl) x.toNat [] _ (wrSlow w _) (by omega) (by decide)).mono ?_
    rintro e w' ⟨rfl, ⟨hlt, v, hc, hf, hown⟩, hb1⟩
    obtain ⟨oa, cp, rfl⟩ := own_slice hown
    have hr := wres _ w w' _ _ _ (below3 w _ _ _) (by omega) hown hb1
    rw [HX.out] at hr
    have HR := Lib.hid hr
    clear hr hown hb1
    go_wp2_with fail
    go_ret
    exact ⟨_, rfl, HR.out⟩

set_option maxHeartbeats 400000 in
theorem wrLong (x : Int) (s : Bool) (w : World) (h1 : -9223372036854775808 ≤ x) (h2 : x ≤ 9223372036854775807) :
    Calls Try.prog 15 #[.int .i64 x, .bool s] w (WRes (enc 9 (zz x)) w) := by
  cases s
  · go_enter Try.func15, Try.ntmps15
    go_wp2_with (first | (go_at_call 23; go_in) | (go_at_call 30; go_in) | fail)
    refine (writeLong 69 _ (.inr rfl) x [] _ (wrFast w _) h1 h2 (by decide)).mono ?_
    rintro e w' ⟨rfl, ⟨hlt, v, hc, hf, hown⟩, hb1⟩
    obtain ⟨oa, cp, rfl⟩ := own_slice hown
    have hr := wres _ w w' _ _ _ (below3 w _ _ _) (by omega) hown hb1
    have HR := Lib.hid hr
    clear hr hown hb1
    go_wp2_with fail
    go_ret
    exact ⟨_, rfl, HR.out⟩
  · go_enter Try.func15, Try.ntmps15
    go_wp2_with (first | (go_at_call 23; go_in) | (go_at_call 30; go_in) | fail)
    refine (writeLong 66 _ (.inl rfl) x [] _ (wrSlow w _) h1 h2 (by decide)).mono ?_
    rintro e w' ⟨rfl, ⟨hlt, v, hc, hf, hown⟩, hb1⟩
    obtain ⟨oa, cp, rfl⟩ := own_slice hown
    have hr := wres _ w w' _ _ _ (below3 w _ _ _) (by omega) hown hb1
    have HR := Lib.hid hr
    clear hr hown hb1
    go_wp2_with fail
    go_ret
    exact ⟨_, rfl, HR.out⟩

set_option maxHeartbeats 400000 in
theorem wrInt (x : Int) (s : Bool) (w : World) (h1 : -2147483648 ≤ x) (h2 : x ≤ 2147483647) :
    Calls Try.prog 20 #[.int .i32 x, .bool s] w (WRes (enc 9 (zz x)) w) := by
  cases s
  · go_enter Try.func20, Try.ntmps20
    go_wp2_with (first | (go_at_call 23; go_in) | (go_at_call 36; go_in) | fail)
    refine (writeInt 69 _ (.inr rfl) x [] _ (wrFast w _) h1 h2 (by decide)).mono ?_
    rintro e w' ⟨rfl, ⟨hlt, v, hc, hf, hown⟩, hb1⟩
    obtain ⟨oa, cp, rfl⟩ := own_slice hown
    have hr := wres _ w w' _ _ _ (below3 w _ _ _) (by omega) hown hb1
    have HR := Lib.hid hr
    clear hr hown hb1
    go_wp2_with fail
    go_ret
    exact ⟨_, rfl, HR.out⟩
  · go_enter Try.func20, Try.ntmps20
    go_wp2_with (first | (go_at_call 23; go_in) | (go_at_call 36; go_in) | fail)
    refine (writeInt 66 _ (.inl rfl) x [] _ (wrSlow w _) h1 h2 (by decide)).mono ?_
    rintro e w' ⟨rfl, ⟨hlt, v, hc, hf, hown⟩, hb1⟩
    obtain ⟨oa, cp, rfl⟩ := own_slice hown
    have hr := wres _ w w' _ _ _ (below3 w _ _ _) (by omega) hown hb1
    have HR := Lib.hid hr
    clear hr hown hb1
    go_wp2_with fail
    go_ret
    exact ⟨_, rfl, HR.out⟩

end Go.Proofs.Ytcncniomjkjamaa
