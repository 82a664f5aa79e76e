/- The functions that FnAVName reaches: what each call computes. -/
import Derived.Test.YtcncniomjkjamaaRows
import Derived.WalkKit
import Derived.WalkSpells
import Derived.WalkLawsBesides
import Derived.BigQuiet
import Derived.Deep.QuietTactic
import Derived.Lib.Hide
namespace Go.Proofs.Ytcncniomjkjamaa
open Go.RowKit

def ld (s : ByteArray) : Nat → Int
  | 0 => -1
  | k + 1 => if h : k < s.size then (if s[k] = 46 then (k : Int) else ld s k) else ld s k

theorem ld_dot (s : ByteArray) (k : Nat) (h : k < s.size) (e : ((s[k].toNat : Int) == 46) = true) : ld s (k + 1) = k := by
  have : s[k] = 46 := by
    simp at e
    exact UInt8.toNat_inj.1 (by simpa using (by omega : s[k].toNat = 46))
  rw [ld, dif_pos h, if_pos this]

theorem ld_other (s : ByteArray) (k : Nat) (h : k < s.size) (e : ((s[k].toNat : Int) == 46) = false) : ld s (k + 1) = ld s k := by
  have : ¬ s[k] = 46 := by
    intro e'
    rw [e'] at e
    simp at e
  rw [ld, dif_pos h, if_neg this]

set_option maxHeartbeats 400000 in
theorem lastByte (s : ByteArray) (w : World) (hs : s.size ≤ maxLen) :
    Calls Try.prog 45 #[.string s, .int .u8 46] w fun e w' => e = .returned (.int .i64 (ld s s.size)) ∧ w = w' := by
  unfold maxLen at hs
  go_enter Try.func45, Try.ntmps45
  go_wp2
  go_loop [5] (fun i => ∃ k : Nat, k ≤ s.size ∧ i = .int .i64 ((k : Int) - 1) ∧ ld s s.size = ld s k) (fun i => (intOf i + 1).toNat)
  case atStart => exact ⟨s.size, Nat.le_refl _, rfl, rfl⟩
  case round =>
    obtain ⟨k, hk, rfl, hld⟩ := hrel
    rcases k with _ | k
    · have Hld := Lib.hid hld
      clear hld
      rw [show (((0 : Nat) : Int) - 1) = -1 from rfl]
      go_wp2
      go_ret
      rw [Hld.out]
      exact ⟨rfl, rfl⟩
    · rw [show (((k + 1 : Nat) : Int) - 1) = (k : Int) from by omega]
      have hlt : k < s.size := by omega
      have Hd := ld_dot s k hlt
      have Ho := ld_other s k hlt
      have Hld := Lib.hid hld
      have HD := Lib.hid Hd
      have HO := Lib.hid Ho
      clear hld Hd Ho
      cases hc : ((s[k].toNat : Int) == 46)
      · go_wp2
        go_round
        case rel => exact ⟨k, by omega, by go_num, by rw [Hld.out, HO.out hc]⟩
        case measure => simp [intOf]
      · go_wp2
        go_ret
        rw [Hld.out, HD.out hc]
        exact ⟨rfl, rfl⟩

theorem bytes_of (w : World) (s : ByteArray) : ∃ C cap, (convert 9 29 (.string s)).run Try.prog w = .ok (.slice (some ⟨w.heap.size, 0, none⟩) s.size cap) (w.drew.alloc (.cells C 5 (C.size, C.size + 1)))
    ∧ ∀ j (h : j < s.size), C[j]? = some (.int .u8 (s[j].toNat : Int)) :=
  ⟨_, _, run_bytes_of_string w 9 29 5 s Try.underlying9 Try.underlying29 Try.underlying5, fun j h => bytesRow_at s _ j h⟩

def SomeBool (w : World) (e : Ending) (w' : World) : Prop := (∃ b, e = .returned (.bool b)) ∧ Below w.heap.size w w'

set_option maxHeartbeats 400000 in
theorem dotted (s : ByteArray) (w : World) (hs : s.size ≤ maxLen) :
    Calls Try.prog 8 #[.string s] w (SomeBool w) := by
  unfold maxLen at hs
  obtain ⟨C, cap, hconv, hC⟩ := bytes_of w s
  have HC := Lib.hid hC
  clear hC
  go_enter Try.func8, Try.ntmps8
  go_wp2
  go_loop [8] (fun i => ∃ k : Nat, k ≤ s.size ∧ i = .int .i64 k) (fun i => s.size - (intOf i).toNat)
  case atStart => exact ⟨0, Nat.zero_le _, rfl⟩
  case round =>
    obtain ⟨k, hk, rfl⟩ := hrel
    by_cases hlt : k < s.size
    · have hcell : (w.alloc (.cells C 5 (C.size, C.size + 1))).cell? ⟨w.heap.size, k, none⟩ = some (.int .u8 (s[k].toNat : Int)) := (World.cell?_alloc_mark _ _ _ _ _).trans (HC.out k hlt)
      generalize (s[k].toNat : Int) = c at hcell
      go_wp2
      all_goals first
        | exact ⟨⟨k + 1, by omega, by go_num⟩, by simp [intOf]; omega⟩
        | (go_ret; exact ⟨⟨_, rfl⟩, ((Below.refl _ _).alloc (Nat.le_refl _) _).drew⟩)
    · go_wp2
      go_ret
      exact ⟨⟨_, rfl⟩, ((Below.refl _ _).alloc (Nat.le_refl _) _).drew⟩

theorem ld_cases (s : ByteArray) (k : Nat) (hk : k ≤ s.size) : ld s k = -1 ∨ ∃ j : Nat, j < s.size ∧ ld s k = j := by
  induction k with
  | zero => exact .inl rfl
  | succ k ih =>
    rw [ld, dif_pos (by omega)]
    split
    · exact .inr ⟨k, by omega, rfl⟩
    · exact ih (by omega)

/-- What stands ahead of the last dot (or what is around), and behind it. -/
def nsp (space s : ByteArray) : ByteArray := if ld s s.size = -1 then space else s.extract 0 (ld s s.size).toNat
def nsh (s : ByteArray) : ByteArray := if ld s s.size = -1 then s else s.extract ((ld s s.size).toNat + 1) s.size

theorem nsp_none {sp s : ByteArray} (h : ld s s.size = -1) : nsp sp s = sp := if_pos h
theorem nsh_none {s : ByteArray} (h : ld s s.size = -1) : nsh s = s := if_pos h
theorem nsp_some {sp s : ByteArray} {k : Nat} (h : ld s s.size = k) : nsp sp s = s.extract 0 k := by
  unfold nsp
  rw [h, if_neg (by omega)]
  rfl
theorem nsh_some {s : ByteArray} {k : Nat} (h : ld s s.size = k) : nsh s = s.extract (k + 1) s.size := by
  unfold nsh
  rw [h, if_neg (by omega)]
  rfl

def Two (x y : ByteArray) (w : World) (e : Ending) (w' : World) : Prop := e = .returned (.tuple #[.string x, .string y]) ∧ Below w.heap.size w w'

theorem below_n {B : Nat} {a w : World} (h : Below B a w) (n : Nat) : Below B a (w.drewN n) := below_drewN h n

set_option maxHeartbeats 400000 in
theorem nmparse (sp s : ByteArray) (w : World) (hs : s.size ≤ maxLen) :
    Calls Try.prog 10 #[.string sp, .string s] w (Two (nsp sp s) (nsh s) w) := by
  unfold maxLen at hs
  go_enter Try.func10, Try.ntmps10
  go_wp2
  go_loop [6] (fun i => ∃ k : Nat, k ≤ s.size ∧ i = .int .i64 ((k : Int) - 1) ∧ ld s s.size = ld s k) (fun i => (intOf i + 1).toNat)
  case atStart => exact ⟨s.size, Nat.le_refl _, rfl, rfl⟩
  case round =>
    obtain ⟨k, hk, rfl, hld⟩ := hrel
    rcases k with _ | k
    · have Hld := Lib.hid hld
      clear hld
      rw [show (((0 : Nat) : Int) - 1) = -1 from rfl]
      go_wp2
      go_ret2
      refine ⟨?_, Below.refl _ _⟩
      rw [nsp_none Hld.out, nsh_none Hld.out]
      rfl
    · rw [show (((k + 1 : Nat) : Int) - 1) = (k : Int) from by omega]
      have hlt : k < s.size := by omega
      have HD := Lib.hid (ld_dot s k hlt)
      have HO := Lib.hid (ld_other s k hlt)
      have Hld := Lib.hid hld
      clear hld
      cases hc : ((s[k].toNat : Int) == 46)
      · go_wp2
        go_round
        case rel => exact ⟨k, by omega, by go_num, by rw [Hld.out, HO.out hc]⟩
        case measure => simp [intOf]
      · go_wp2
        go_quiet (fail)
        go_wp2
        go_ret2
        refine ⟨?_, below_n (Below.refl _ _) _⟩
        rw [nsp_some (Hld.out.trans (HD.out hc)), nsh_some (Hld.out.trans (HD.out hc))]
        rfl

set_option maxHeartbeats 400000 in
theorem lastIndex (s : ByteArray) (w : World) (hs : s.size ≤ maxLen) :
    Calls Try.prog 40 #[.string s, .string ⟨#[46]⟩] w fun e w' => e = .returned (.int .i64 (ld s s.size)) ∧ w = w' := by
  have hm := hs
  unfold maxLen at hs
  go_enter Try.func40, Try.ntmps40
  go_wp2_with (go_at_call 45; refine (lastByte _ _ hm).mono ?_; rintro e w' ⟨rfl, rfl⟩)
  go_ret
  exact ⟨rfl, rfl⟩

def OneQ (x y : ByteArray) (w : World) (e : Ending) (w' : World) : Prop := e = .returned (.agg #[.string x, .string y]) ∧ Below w.heap.size w w'

set_option maxHeartbeats 400000 in
theorem parse (sp s : ByteArray) (w : World) (hs : s.size ≤ maxLen) :
    Calls Try.prog 22 #[.string sp, .string s] w (OneQ (nsp sp s) (nsh s) w) := by
  have hm := hs
  unfold maxLen at hs
  rcases ld_cases s s.size (Nat.le_refl _) with h | ⟨k, hk, h⟩
  · have H := Lib.hid h
    clear h
    go_enter Try.func22, Try.ntmps22
    go_wp2_with (go_at_call 40; refine (lastIndex _ _ hm).mono ?_; rw [H.out]; rintro e w' ⟨rfl, rfl⟩)
    refine bodyPost_ret (v := .agg #[.string sp, .string s]) (by simp [results, Try.results22, go_sem]) rfl ⟨?_, (Below.refl _ _).alloc (Nat.le_refl _) _⟩
    rw [nsp_none H.out, nsh_none H.out]
  · have H := Lib.hid h
    clear h
    go_enter Try.func22, Try.ntmps22
    go_wp2_with (go_at_call 40; refine (lastIndex _ _ hm).mono ?_; rw [H.out]; rintro e w' ⟨rfl, rfl⟩)
    refine bodyPost_ret (v := .agg #[.string (s.extract 0 k), .string (s.extract (k + 1) s.size)]) (by simp [results, Try.results22, go_sem]) rfl ⟨?_, (Below.refl _ _).alloc (Nat.le_refl _) _⟩
    rw [nsp_some H.out, nsh_some H.out]

set_option maxHeartbeats 400000 in
theorem avname (sp s : ByteArray) (w : World) (hs : s.size ≤ maxLen) :
    Calls Try.prog 9 #[.string sp, .string s] w (Two (nsp sp s) (nsh s) w) := by
  go_enter Try.func9, Try.ntmps9
  go_wp2_with (go_at_call 22; refine (parse _ _ _ hs).mono ?_; rintro e w' ⟨rfl, hb⟩)
  go_quiet (fail)
  go_wp2
  go_ret2
  exact ⟨rfl, below_n (hb.alloc hb.size _) _⟩

theorem empty_of (s : ByteArray) (h : s.toList = []) : s.size = 0 := by
  rw [ByteArray.toList_eq] at h
  have : s.data.toList.length = 0 := by rw [h]; rfl
  simpa using this

theorem of_empty (s : ByteArray) (h : s.size = 0) : s.toList = [] := by
  rw [ByteArray.toList_eq]
  exact List.eq_nil_of_length_eq_zero (by simpa using h)

theorem nsp_const : nsp ⟨#[97]⟩ ⟨#[98, 46, 99]⟩ = ⟨#[98]⟩ := by decide +kernel
theorem nsh_const : nsh ⟨#[98, 46, 99]⟩ = ⟨#[99]⟩ := by decide +kernel

set_option maxHeartbeats 1000000 in
theorem law (a0 a1 : ByteArray) (w0 : a0.size ≤ maxLen) (w1 : a1.size ≤ maxLen) (w : World) :
    Calls Try.prog 3 #[.string a0, .string a1] w fun e w' => e = .returned (.bool true) ∧ Below w.heap.size w w' := by
  by_cases h0 : a0.size ≤ 2147483647
  · by_cases h1 : a1.size ≤ 2147483647
    · by_cases hz : a1.size = 0
      · have hz' := of_empty a1 hz
        clear hz
        go_enter Try.func3, Try.ntmps3
        go_wp2_with fail
        refine (dotted _ _ w0).mono ?_
        rintro e w' ⟨⟨b, rfl⟩, hb⟩
        cases b
        · go_wp2_with fail
          go_ret
          exact ⟨rfl, hb⟩
        · go_wp2_with fail
          refine (dotted _ _ w1).mono ?_
          rintro e w' ⟨⟨b, rfl⟩, hb2⟩
          cases b
          · go_wp2_with fail
            go_ret
            exact ⟨rfl, hb.trans (hb2.mono hb.size)⟩
          · go_wp2_with fail
            go_ret
            exact ⟨rfl, hb.trans (hb2.mono hb.size)⟩
      · have hne : ¬ a1.toList = [] := fun h => hz (empty_of a1 h)
        have hpos : 0 < a1.size := by omega
        clear hz
        go_enter Try.func3, Try.ntmps3
        go_wp2_with fail
        refine (dotted _ _ w0).mono ?_
        rintro e w' ⟨⟨b, rfl⟩, hb⟩
        cases b
        · go_wp2_with fail
          go_ret
          exact ⟨rfl, hb⟩
        · go_wp2_with fail
          refine (dotted _ _ w1).mono ?_
          rintro e wb ⟨⟨b, rfl⟩, hb2⟩
          have hb3 := hb.trans (hb2.mono hb.size)
          clear hb hb2
          cases b
          · go_wp2_with fail
            go_ret
            exact ⟨rfl, hb3⟩
          · go_wp2_with fail
            all_goals first | (go_ret; exact ⟨rfl, hb3⟩) | skip
            refine (avname _ _ _ w1).mono ?_
            rintro e wc ⟨rfl, hc⟩
            have hc3 := hb3.trans (hc.mono hb3.size)
            clear hb3 hc
            go_wp2_with fail
            refine (nmparse _ _ _ w1).mono ?_
            rintro e wd ⟨rfl, hd⟩
            have hd3 := hc3.trans (hd.mono hc3.size)
            clear hc3 hd
            go_wp2_with fail
            refine (avname _ _ _ (by unfold maxLen; decide)).mono ?_
            rw [nsp_const, nsh_const]
            rintro e we ⟨rfl, he⟩
            have he3 := hd3.trans (he.mono hd3.size)
            clear hd3 he
            go_wp2_with fail
            go_ret
            exact ⟨rfl, he3⟩
    · go_enter Try.func3, Try.ntmps3
      go_wp2
      go_ret
      exact ⟨rfl, Below.refl _ _⟩
  · go_enter Try.func3, Try.ntmps3
    go_wp2
    go_ret
    exact ⟨rfl, Below.refl _ _⟩
end Go.Proofs.Ytcncniomjkjamaa
