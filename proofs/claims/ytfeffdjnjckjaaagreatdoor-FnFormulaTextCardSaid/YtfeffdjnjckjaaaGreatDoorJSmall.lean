/- The small parts of the reader. -/
import Derived.Test.YtfeffdjnjckjaaaGreatDoorJBase
/- What the bytes of a formula are: digits, letters, bytes of a name, great letters; and what the reader takes. -/
namespace Go.Proofs.YtfeffdjnjckjaaaGreatDoor.Rg
open Go.RowKit

def isNum (c : UInt8) : Bool := decide (48 ≤ c.toNat) && decide (c.toNat ≤ 57)
def isAlpha (c : UInt8) : Bool := (decide (65 ≤ c.toNat) && decide (c.toNat ≤ 90)) || (decide (97 ≤ c.toNat) && decide (c.toNat ≤ 122))
def isNamed (c : UInt8) : Bool := isAlpha c || isNum c || decide (c.toNat = 46) || decide (c.toNat = 95)
def up (c : UInt8) : UInt8 := if decide (97 ≤ c.toNat) && decide (c.toNat ≤ 122) then c - 32 else c

theorem ret_bool {a b : Bool} (h : a = b) : Ending.returned (.bool a) = .returned (.bool b) := by rw [h]

theorem ret_u8 {a b : Int} (h : a = b) : Ending.returned (.int .u8 a) = .returned (.int .u8 b) := by rw [h]

theorem num_any (c : UInt8) (w : World) : Calls Tryz.prog 43 #[.int .u8 c.toNat] w fun e w' => e = .returned (.bool (isNum c)) ∧ w = w' := by
  have hc := c.toNat_lt
  go_enter Tryz.func43, Tryz.ntmps43
  go_wp2
  all_goals
    go_ret
    exact ⟨ret_bool (by rw [Bool.eq_iff_iff]; simp [isNum]; omega), rfl⟩

theorem alpha_any (c : UInt8) (w : World) : Calls Tryz.prog 60 #[.int .u8 c.toNat] w fun e w' => e = .returned (.bool (isAlpha c)) ∧ w = w' := by
  have hc := c.toNat_lt
  go_enter Tryz.func60, Tryz.ntmps60
  go_wp2
  all_goals
    go_ret
    exact ⟨ret_bool (by rw [Bool.eq_iff_iff]; simp [isAlpha]; omega), rfl⟩

theorem named_any (c : UInt8) (w : World) : Calls Tryz.prog 59 #[.int .u8 c.toNat] w fun e w' => e = .returned (.bool (isNamed c)) ∧ w = w' := by
  have hc := c.toNat_lt
  go_enter Tryz.func59, Tryz.ntmps59
  go_wp2_with (first
    | (go_at_call 60; refine (alpha_any c _).mono ?_; rintro e w' ⟨rfl, rfl⟩)
    | (go_at_call 43; refine (num_any c _).mono ?_; rintro e w' ⟨rfl, rfl⟩))
  all_goals
    go_ret
    exact ⟨ret_bool (by rw [Bool.eq_iff_iff]; simp_all [isNamed]; try omega), rfl⟩

theorem upper_any (c : UInt8) (w : World) : Calls Tryz.prog 67 #[.int .u8 c.toNat] w fun e w' => e = .returned (.int .u8 (up c).toNat) ∧ w = w' := by
  have hc := c.toNat_lt
  by_cases h1 : 97 ≤ c.toNat ∧ c.toNat ≤ 122
  · have HU : Hid (((up c).toNat : Int) = (c.toNat : Int) - 32) := by
      show ((up c).toNat : Int) = (c.toNat : Int) - 32
      unfold up
      rw [if_pos (by simp; exact h1), UInt8.toNat_sub]
      simp
      omega
    obtain ⟨h1, h2⟩ := h1
    go_enter Tryz.func67, Tryz.ntmps67
    go_wp2
    go_ret
    exact ⟨ret_u8 (by rw [HU.out]), rfl⟩
  · have HU : Hid (up c = c) := by
      show up c = c
      unfold up
      rw [if_neg (by simp; omega)]
    have h1 : c.toNat < 97 ∨ 122 < c.toNat := by omega
    go_enter Tryz.func67, Tryz.ntmps67
    rcases h1 with h1 | h1
    all_goals
      go_wp2
      go_ret
      exact ⟨ret_u8 (by rw [HU.out]), rfl⟩

/-- What is left when blanks are passed. -/
def blk (r : List UInt8) : List UInt8 := r.dropWhile (· == 32)
theorem blk_suf (r : List UInt8) : blk r <:+ r := List.dropWhile_suffix _

theorem extract_bytes (s : ByteArray) (k n : Nat) : (s.extract k (k + n)).data.toList = (s.data.toList.drop k).take n := by
  rw [Lib.extract_data]
  simp

theorem ne_bytes {a b : ByteArray} (h : a.data.toList ≠ b.data.toList) : (!a.toList == b.toList) = true := by
  rw [Lib.toList_data, Lib.toList_data]
  simpa using h
theorem eq_bytes {a b : ByteArray} (h : a.data.toList = b.data.toList) : (!a.toList == b.toList) = false := by
  rw [Lib.toList_data, Lib.toList_data]
  simpa using h

set_option maxHeartbeats 1000000 in
/-- The reader takes a text that comes. -/
theorem takes_yes' (g : Nat) (s T : ByteArray) (r r' : List UInt8) (d : Int) (b : Bool) (w : World) (h : At w g s r d b) (hr : r = T.data.toList ++ r') :
    Calls Tryz.prog 23 #[.pointer (some ⟨g, 0, none⟩), .string T] w fun e w' => e = .returned (.bool true) ∧ At w' g s r' d b ∧ Fr w w' g := by
  obtain ⟨k, hk, hks, hkr⟩ := h.pos
  have c0 := h.c0
  have c1 := h.c1
  rw [hk] at c1
  have H := Lib.hid h
  have hs := h.small
  have hf := h.free 1
  have HS : Hid (r' <:+ s.data.toList) := (List.suffix_append _ _).trans (hr ▸ h.suf)
  have hrl : T.size + r'.length = r.length := by rw [hr, List.length_append]; simp
  have HP : Hid ((k : Int) + (T.size : Int) = (s.size : Int) - (r'.length : Int)) := by
    show (k : Int) + (T.size : Int) = (s.size : Int) - (r'.length : Int)
    omega
  have hd : decide ((s.size : Int) - (k : Int) < (T.size : Int)) = false := by simp; omega
  have hw0 : IntKind.i64.wrap ((s.size : Int) - (k : Int)) = (s.size : Int) - (k : Int) := by rw [IntKind.wrap_i64]; omega
  have hw1 : IntKind.i64.wrap ((k : Int) + (T.size : Int)) = (k : Int) + (T.size : Int) := by rw [IntKind.wrap_i64]; omega
  have hw2 : (0 : Int) ≤ (k : Int) + (T.size : Int) := by omega
  have hb1 : (k : Int) ≤ (k : Int) + (T.size : Int) := by omega
  have hb2 : (k : Int) + (T.size : Int) ≤ (s.size : Int) := by omega
  have hw3 : ((k : Int) + (T.size : Int)).toNat = k + T.size := by omega
  have hne : (!(s.extract k (k + T.size)).toList == T.toList) = false := eq_bytes (by
    rw [extract_bytes, ← hkr, hr]
    simp)
  clear h hr hrl hk hkr
  go_enter Tryz.func23, Tryz.ntmps23
  go_wp2
  go_quiet (fail)
  go_wp2
  go_ret
  exact ⟨rfl, (H.out.drewN _).setAt r' _ HP.out HS.out, (Fr.drewN _ _ _).trans (Fr.set _ _ _)⟩

set_option maxHeartbeats 1000000 in
/-- The reader leaves a text that does not come. -/
theorem takes_no (g : Nat) (s T : ByteArray) (r : List UInt8) (d : Int) (b : Bool) (w : World) (h : At w g s r d b) (hr : ¬ T.data.toList <+: r) :
    Calls Tryz.prog 23 #[.pointer (some ⟨g, 0, none⟩), .string T] w fun e w' => e = .returned (.bool false) ∧ ∃ n, w' = w.drewN n := by
  obtain ⟨k, hk, hks, hkr⟩ := h.pos
  have c0 := h.c0
  have c1 := h.c1
  rw [hk] at c1
  have hs := h.small
  have hw0 : IntKind.i64.wrap ((s.size : Int) - (k : Int)) = (s.size : Int) - (k : Int) := by rw [IntKind.wrap_i64]; omega
  by_cases hlt : (s.size : Int) - (k : Int) < (T.size : Int)
  · have hd : decide ((s.size : Int) - (k : Int) < (T.size : Int)) = true := by simpa using hlt
    clear h hr hk hkr
    go_enter Tryz.func23, Tryz.ntmps23
    go_wp2
    go_quiet (fail)
    go_wp2
    go_ret
    exact ⟨rfl, _, rfl⟩
  · have hd : decide ((s.size : Int) - (k : Int) < (T.size : Int)) = false := by simpa using hlt
    have hw1 : IntKind.i64.wrap ((k : Int) + (T.size : Int)) = (k : Int) + (T.size : Int) := by rw [IntKind.wrap_i64]; omega
    have hw2 : (0 : Int) ≤ (k : Int) + (T.size : Int) := by omega
    have hb1 : (k : Int) ≤ (k : Int) + (T.size : Int) := by omega
    have hb2 : (k : Int) + (T.size : Int) ≤ (s.size : Int) := by omega
    have hw3 : ((k : Int) + (T.size : Int)).toNat = k + T.size := by omega
    have hne : (!(s.extract k (k + T.size)).toList == T.toList) = true := ne_bytes (by
      rw [extract_bytes, ← hkr]
      intro he
      exact hr (he ▸ List.take_prefix _ _))
    clear h hr hk hkr
    go_enter Tryz.func23, Tryz.ntmps23
    go_wp2
    go_quiet (fail)
    go_wp2
    go_ret
    exact ⟨rfl, _, rfl⟩

theorem takes_yes (g : Nat) (s : ByteArray) (t r : List UInt8) (d : Int) (b : Bool) (w : World) (h : At w g s (t ++ r) d b) :
    Calls Tryz.prog 23 #[.pointer (some ⟨g, 0, none⟩), .string (bs t)] w fun e w' => e = .returned (.bool true) ∧ At w' g s r d b ∧ Fr w w' g :=
  takes_yes' g s (bs t) (t ++ r) r d b w h rfl

theorem blk_cons (r : List UInt8) : blk (32 :: r) = blk r := rfl
theorem blk_stop {r : List UInt8} (h : pk r ≠ 32) : blk r = r := by
  cases r with
  | nil => rfl
  | cons a r =>
    have : (a == 32) = false := by simpa [pk] using h
    simp [blk, this]

end Go.Proofs.YtfeffdjnjckjaaaGreatDoor.Rg

/- The reader passes blanks. -/
namespace Go.Proofs.YtfeffdjnjckjaaaGreatDoor.Rg
open Go.RowKit

set_option maxHeartbeats 1000000 in
/-- The reader passes blanks. -/
theorem blanks_any (g : Nat) (s : ByteArray) (r : List UInt8) (d : Int) (b : Bool) (w : World) (h : At w g s r d b) :
    Calls Tryz.prog 11 #[.pointer (some ⟨g, 0, none⟩)] w fun e w' => e = .returned (.tuple #[]) ∧ At w' g s (blk r) d b ∧ Fr w w' g := by
  have H := Lib.hid h
  have HF := Lib.hid (Fr.refl w g)
  clear h
  go_enter Tryz.func11, Tryz.ntmps11
  go_wp2_with fail
  go_loopw [] (fun wr => ∃ r', blk r' = blk r ∧ Hid (At wr g s r' d b) ∧ Hid (Fr w wr g)) (fun wr => left wr g)
  case atStart => exact ⟨r, rfl, H, HF⟩
  case round =>
    obtain ⟨r', hr', H, HF⟩ := hrel
    have PK := Lib.hid (peek_any g s r' d b wr H.out)
    by_cases hp : pk r' = 32
    · obtain ⟨r2, rfl⟩ : ∃ r2, r' = 32 :: r2 := by
        cases r' with
        | nil => simp [pk] at hp
        | cons a r2 => exact ⟨r2, by simp [pk] at hp; rw [hp]⟩
      obtain ⟨p, p0, p1, HP, c1, f1⟩ := H.out.see
      have hp2 : ((pk (32 :: r2)).toNat : Int) = 32 := by rw [hp]; rfl
      rw [hp2] at PK
      have HR := Lib.hid hr'
      clear hp hp2 hr'
      go_wp2_with fail
      refine PK.out.mono ?_
      rintro e w' ⟨rfl, n, rfl⟩
      clear PK
      go_wp2
      go_roundw
      case rel => exact ⟨r2, by rw [← HR.out, blk_cons], Lib.hid ((H.out.drewN n).step _ (by rw [HP.out])), Lib.hid ((HF.out.trans (Fr.drewN _ _ _)).trans (Fr.set _ _ _))⟩
      case measure =>
        rw [((H.out.drewN n).step _ (by rw [HP.out])).left, H.out.left, List.length_cons]
        omega
    · have hp2 : ((pk r').toNat : Int) ≠ 32 := by
        intro h
        apply hp
        have h' : (pk r').toNat = 32 := by omega
        exact UInt8.toNat_inj.1 h'
      have hp3 : decide (((pk r').toNat : Int) = 32) = false := decide_eq_false hp2
      have HR := Lib.hid hr'
      have HN := Lib.hid hp
      clear hp hr'
      go_wp2_with fail
      refine PK.out.mono ?_
      rintro e w' ⟨rfl, n, rfl⟩
      clear PK
      go_wp2
      go_end0
      refine ⟨rfl, ?_, HF.out.trans (Fr.drewN _ _ _)⟩
      rw [← HR.out, blk_stop HN.out]
      exact H.out.drewN n

end Go.Proofs.YtfeffdjnjckjaaaGreatDoor.Rg

/- How tightly an operator binds. -/
namespace Go.Proofs.YtfeffdjnjckjaaaGreatDoor.Rg
open Go.RowKit

def lev (l : List UInt8) : Nat :=
  if l = [61] ∨ l = [60, 62] ∨ l = [60] ∨ l = [62] ∨ l = [60, 61] ∨ l = [62, 61] then 1
  else if l = [38] then 2
  else if l = [43] ∨ l = [45] then 3
  else if l = [42] ∨ l = [47] then 4
  else if l = [94] then 5
  else if l = [112, 101, 114, 99, 101, 110, 116] then 6
  else if l = [110, 101, 103] ∨ l = [112, 108, 117, 115] then 7
  else 0

theorem ret_int {a b : Int} (h : a = b) : Ending.returned (.int .i64 a) = .returned (.int .i64 b) := by rw [h]

theorem no_list {S : ByteArray} {l : List UInt8} (h : ¬ S.data.toList = l) : (S.toList == l) = false := by
  rw [Lib.toList_data]
  simpa using h

theorem levels_0 (w : World) : Calls Tryz.prog 24 #[.string ⟨#[61]⟩] w fun e w' => e = .returned (.int .i64 1) ∧ w = w' := by
  go_enter Tryz.func24, Tryz.ntmps24
  go_wp2
  go_ret
  exact ⟨rfl, rfl⟩
theorem levels_1 (w : World) : Calls Tryz.prog 24 #[.string ⟨#[60, 62]⟩] w fun e w' => e = .returned (.int .i64 1) ∧ w = w' := by
  go_enter Tryz.func24, Tryz.ntmps24
  go_wp2
  go_ret
  exact ⟨rfl, rfl⟩
theorem levels_2 (w : World) : Calls Tryz.prog 24 #[.string ⟨#[60]⟩] w fun e w' => e = .returned (.int .i64 1) ∧ w = w' := by
  go_enter Tryz.func24, Tryz.ntmps24
  go_wp2
  go_ret
  exact ⟨rfl, rfl⟩
theorem levels_3 (w : World) : Calls Tryz.prog 24 #[.string ⟨#[62]⟩] w fun e w' => e = .returned (.int .i64 1) ∧ w = w' := by
  go_enter Tryz.func24, Tryz.ntmps24
  go_wp2
  go_ret
  exact ⟨rfl, rfl⟩
theorem levels_4 (w : World) : Calls Tryz.prog 24 #[.string ⟨#[60, 61]⟩] w fun e w' => e = .returned (.int .i64 1) ∧ w = w' := by
  go_enter Tryz.func24, Tryz.ntmps24
  go_wp2
  go_ret
  exact ⟨rfl, rfl⟩
theorem levels_5 (w : World) : Calls Tryz.prog 24 #[.string ⟨#[62, 61]⟩] w fun e w' => e = .returned (.int .i64 1) ∧ w = w' := by
  go_enter Tryz.func24, Tryz.ntmps24
  go_wp2
  go_ret
  exact ⟨rfl, rfl⟩
theorem levels_6 (w : World) : Calls Tryz.prog 24 #[.string ⟨#[38]⟩] w fun e w' => e = .returned (.int .i64 2) ∧ w = w' := by
  go_enter Tryz.func24, Tryz.ntmps24
  go_wp2
  go_ret
  exact ⟨rfl, rfl⟩
theorem levels_7 (w : World) : Calls Tryz.prog 24 #[.string ⟨#[43]⟩] w fun e w' => e = .returned (.int .i64 3) ∧ w = w' := by
  go_enter Tryz.func24, Tryz.ntmps24
  go_wp2
  go_ret
  exact ⟨rfl, rfl⟩
theorem levels_8 (w : World) : Calls Tryz.prog 24 #[.string ⟨#[45]⟩] w fun e w' => e = .returned (.int .i64 3) ∧ w = w' := by
  go_enter Tryz.func24, Tryz.ntmps24
  go_wp2
  go_ret
  exact ⟨rfl, rfl⟩
theorem levels_9 (w : World) : Calls Tryz.prog 24 #[.string ⟨#[42]⟩] w fun e w' => e = .returned (.int .i64 4) ∧ w = w' := by
  go_enter Tryz.func24, Tryz.ntmps24
  go_wp2
  go_ret
  exact ⟨rfl, rfl⟩
theorem levels_10 (w : World) : Calls Tryz.prog 24 #[.string ⟨#[47]⟩] w fun e w' => e = .returned (.int .i64 4) ∧ w = w' := by
  go_enter Tryz.func24, Tryz.ntmps24
  go_wp2
  go_ret
  exact ⟨rfl, rfl⟩
theorem levels_11 (w : World) : Calls Tryz.prog 24 #[.string ⟨#[94]⟩] w fun e w' => e = .returned (.int .i64 5) ∧ w = w' := by
  go_enter Tryz.func24, Tryz.ntmps24
  go_wp2
  go_ret
  exact ⟨rfl, rfl⟩
theorem levels_12 (w : World) : Calls Tryz.prog 24 #[.string ⟨#[112, 101, 114, 99, 101, 110, 116]⟩] w fun e w' => e = .returned (.int .i64 6) ∧ w = w' := by
  go_enter Tryz.func24, Tryz.ntmps24
  go_wp2
  go_ret
  exact ⟨rfl, rfl⟩
theorem levels_13 (w : World) : Calls Tryz.prog 24 #[.string ⟨#[110, 101, 103]⟩] w fun e w' => e = .returned (.int .i64 7) ∧ w = w' := by
  go_enter Tryz.func24, Tryz.ntmps24
  go_wp2
  go_ret
  exact ⟨rfl, rfl⟩
theorem levels_14 (w : World) : Calls Tryz.prog 24 #[.string ⟨#[112, 108, 117, 115]⟩] w fun e w' => e = .returned (.int .i64 7) ∧ w = w' := by
  go_enter Tryz.func24, Tryz.ntmps24
  go_wp2
  go_ret
  exact ⟨rfl, rfl⟩

set_option maxHeartbeats 2000000 in
theorem levels_none (S : ByteArray) (w : World) (h0 : ¬ S.data.toList = [61]) (h1 : ¬ S.data.toList = [60, 62]) (h2 : ¬ S.data.toList = [60]) (h3 : ¬ S.data.toList = [62]) (h4 : ¬ S.data.toList = [60, 61]) (h5 : ¬ S.data.toList = [62, 61]) (h6 : ¬ S.data.toList = [38]) (h7 : ¬ S.data.toList = [43]) (h8 : ¬ S.data.toList = [45]) (h9 : ¬ S.data.toList = [42]) (h10 : ¬ S.data.toList = [47]) (h11 : ¬ S.data.toList = [94]) (h12 : ¬ S.data.toList = [112, 101, 114, 99, 101, 110, 116]) (h13 : ¬ S.data.toList = [110, 101, 103]) (h14 : ¬ S.data.toList = [112, 108, 117, 115]) : Calls Tryz.prog 24 #[.string S] w fun e w' => e = .returned (.int .i64 0) ∧ w = w' := by
  have g0 := no_list h0
  have g1 := no_list h1
  have g2 := no_list h2
  have g3 := no_list h3
  have g4 := no_list h4
  have g5 := no_list h5
  have g6 := no_list h6
  have g7 := no_list h7
  have g8 := no_list h8
  have g9 := no_list h9
  have g10 := no_list h10
  have g11 := no_list h11
  have g12 := no_list h12
  have g13 := no_list h13
  have g14 := no_list h14
  clear h0 h1 h2 h3 h4 h5 h6 h7 h8 h9 h10 h11 h12 h13 h14
  go_enter Tryz.func24, Tryz.ntmps24
  go_wp2
  go_ret
  exact ⟨rfl, rfl⟩

theorem levels_any (S : ByteArray) (w : World) : Calls Tryz.prog 24 #[.string S] w fun e w' => e = .returned (.int .i64 (lev S.data.toList)) ∧ w = w' := by
  by_cases h0 : S.data.toList = [61]
  · obtain rfl : S = ⟨#[61]⟩ := ByteArray.ext (Array.ext' h0)
    exact levels_0 w
  by_cases h1 : S.data.toList = [60, 62]
  · obtain rfl : S = ⟨#[60, 62]⟩ := ByteArray.ext (Array.ext' h1)
    exact levels_1 w
  by_cases h2 : S.data.toList = [60]
  · obtain rfl : S = ⟨#[60]⟩ := ByteArray.ext (Array.ext' h2)
    exact levels_2 w
  by_cases h3 : S.data.toList = [62]
  · obtain rfl : S = ⟨#[62]⟩ := ByteArray.ext (Array.ext' h3)
    exact levels_3 w
  by_cases h4 : S.data.toList = [60, 61]
  · obtain rfl : S = ⟨#[60, 61]⟩ := ByteArray.ext (Array.ext' h4)
    exact levels_4 w
  by_cases h5 : S.data.toList = [62, 61]
  · obtain rfl : S = ⟨#[62, 61]⟩ := ByteArray.ext (Array.ext' h5)
    exact levels_5 w
  by_cases h6 : S.data.toList = [38]
  · obtain rfl : S = ⟨#[38]⟩ := ByteArray.ext (Array.ext' h6)
    exact levels_6 w
  by_cases h7 : S.data.toList = [43]
  · obtain rfl : S = ⟨#[43]⟩ := ByteArray.ext (Array.ext' h7)
    exact levels_7 w
  by_cases h8 : S.data.toList = [45]
  · obtain rfl : S = ⟨#[45]⟩ := ByteArray.ext (Array.ext' h8)
    exact levels_8 w
  by_cases h9 : S.data.toList = [42]
  · obtain rfl : S = ⟨#[42]⟩ := ByteArray.ext (Array.ext' h9)
    exact levels_9 w
  by_cases h10 : S.data.toList = [47]
  · obtain rfl : S = ⟨#[47]⟩ := ByteArray.ext (Array.ext' h10)
    exact levels_10 w
  by_cases h11 : S.data.toList = [94]
  · obtain rfl : S = ⟨#[94]⟩ := ByteArray.ext (Array.ext' h11)
    exact levels_11 w
  by_cases h12 : S.data.toList = [112, 101, 114, 99, 101, 110, 116]
  · obtain rfl : S = ⟨#[112, 101, 114, 99, 101, 110, 116]⟩ := ByteArray.ext (Array.ext' h12)
    exact levels_12 w
  by_cases h13 : S.data.toList = [110, 101, 103]
  · obtain rfl : S = ⟨#[110, 101, 103]⟩ := ByteArray.ext (Array.ext' h13)
    exact levels_13 w
  by_cases h14 : S.data.toList = [112, 108, 117, 115]
  · obtain rfl : S = ⟨#[112, 108, 117, 115]⟩ := ByteArray.ext (Array.ext' h14)
    exact levels_14 w
  have hl : lev S.data.toList = 0 := by simp [lev, h0, h1, h2, h3, h4, h5, h6, h7, h8, h9, h10, h11, h12, h13, h14]
  rw [hl]
  exact levels_none S w h0 h1 h2 h3 h4 h5 h6 h7 h8 h9 h10 h11 h12 h13 h14

end Go.Proofs.YtfeffdjnjckjaaaGreatDoor.Rg
