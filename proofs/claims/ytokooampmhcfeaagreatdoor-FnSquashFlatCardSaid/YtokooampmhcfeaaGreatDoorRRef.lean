/- The text of a cell and of an area, as the package makes it of numbers. -/
import Derived.Test.YtokooampmhcfeaaGreatDoorRText
import Derived.Test.YtokooampmhcfeaaGreatDoorRLives
import Derived.Sort.Grow
namespace Go.Proofs.YtokooampmhcfeaaGreatDoor.Rg
open Go.RowKit Go.Sort

/-- The powers of ten that the library's numerals are made by lie in their table. -/
def Tab (w : World) : Prop := Lib.TabIs Tryz.prog w "internal/strconv.uint64pow10" .u64 Lib.pow10Tab

theorem tab_stays {P : Program} {w w' : World} {name : String} {k : IntKind} {zs : List Int} (h : Lib.TabIs P w name k zs) (hb : Below w.heap.size w w') : Lib.TabIs P w' name k zs := by
  unfold Lib.TabIs World.var? at h ⊢
  cases hg : P.globalNamed name with
  | none => rw [hg] at h; cases h
  | some g =>
    rw [hg] at h
    simp only [Option.bind_some] at h ⊢
    have hlt : g < w.heap.size := by
      rcases Nat.lt_or_ge g w.heap.size with h' | h'
      · exact h'
      · rw [Array.getElem?_eq_none h'] at h; cases h
    rw [hb.block g hlt]
    exact h

theorem Tab.stays {w w' : World} (h : Tab w) (hb : Below w.heap.size w w') : Tab w' := tab_stays h hb

theorem below_more (w : World) (k : Nat) (os : Array Obj) : Below w.heap.size w (grow (w.drewN k) os) := by
  have e : (w.drewN k).heap = w.heap := rfl
  refine ⟨rfl, rfl, rfl, ?_, fun j hj => ?_⟩
  · show w.heap.size ≤ ((w.drewN k).heap ++ os).size
    rw [e, Array.size_append]
    omega
  · show ((w.drewN k).heap ++ os)[j]? = w.heap[j]?
    rw [e, Array.getElem?_append_left hj]

theorem itoa_any (n : Nat) (hn : n ≤ 9223372036854775807) (w : World) (ht : Tab w) :
    Calls Tryz.prog 76 #[.int .i64 n] w fun e w' => e = .returned (.string ⟨(Lib.decDigits n).toArray⟩) ∧ Below w.heap.size w w' :=
  (Tryz.strconv_Itoa n (by omega) (by omega) w ht).mono fun e w' ⟨he, k, os, hw⟩ => by
    refine ⟨?_, by rw [hw]; exact below_more w k os⟩
    rw [he]
    have : Lib.itoa (n : Int) = Lib.decDigits n := by unfold Lib.itoa; rw [if_neg (by omega)]; simp
    rw [this]

set_option maxHeartbeats 800000 in
theorem number_any (n : Nat) (w : World) (h1 : 1 ≤ n) (h2 : n ≤ 16384) :
    Calls Tryz.prog 75 #[.int .i64 n] w fun e w' => e = .returned (.tuple #[.string ⟨(colName n).toArray⟩, .nilIface]) ∧ Below w.heap.size w w' := by
  go_enter Tryz.func75, Tryz.ntmps75
  go_wp2_with fail
  refine (name_any n _ h1 h2).mono ?_
  rintro e w1 ⟨rfl, hb⟩
  go_wp2
  go_ret2
  exact ⟨rfl, hb⟩

theorem str_append (a b : List UInt8) : (⟨a.toArray⟩ : ByteArray) ++ ⟨b.toArray⟩ = ⟨(a ++ b).toArray⟩ := by
  apply ByteArray.ext
  simp

set_option maxHeartbeats 1600000 in
set_option maxRecDepth 100000 in
/-- A cell's text, where nothing is said of '$'. -/
theorem coord_nil (c r k : Nat) (A : Option Addr) (w : World) (h1 : 1 ≤ c) (h2 : c ≤ 16384) (h3 : 1 ≤ r) (h4 : r ≤ 1048576) (ht : Tab w) :
    Calls Tryz.prog 45 #[.int .i64 c, .int .i64 r, .slice A 0 k] w fun e w' => e = .returned (.tuple #[.string ⟨(cellText false c r).toArray⟩, .nilIface]) ∧ Below w.heap.size w w' := by
  have hSz : (⟨(colName c).toArray⟩ : ByteArray).size ≤ 3 := by
    show (colName c).toArray.size ≤ 3
    have := (colName_len c h1 h2).2
    simpa using this
  have hDz : (⟨(Lib.decDigits r).toArray⟩ : ByteArray).size ≤ 7 := by
    show (Lib.decDigits r).toArray.size ≤ 7
    have := digits_short 6 r (by omega)
    simpa using this
  have HCC : Hid (cellText false c r = colName c ++ Lib.decDigits r) := rfl
  have HCT : Hid (cellText true c r = 36 :: (colName c ++ 36 :: Lib.decDigits r)) := rfl
  go_enter Tryz.func45, Tryz.ntmps45
  go_wp2_with fail
  refine (number_any c _ h1 h2).mono ?_
  have hcat : (⟨(colName c).toArray⟩ : ByteArray) ++ ⟨(Lib.decDigits r).toArray⟩ = ⟨(cellText false c r).toArray⟩ := str_append _ _
  have HI := fun w ht => itoa_any r (by omega) w ht
  generalize (⟨(colName c).toArray⟩ : ByteArray) = S at *
  generalize (⟨(Lib.decDigits r).toArray⟩ : ByteArray) = D at *
  have ra : ∀ w, (Op.stringOp .add S D).run Tryz.prog w = .ok (.string (S ++ D)) w := fun w => run_string_add_sum _ _ _ (by omega)
  rintro e w1 ⟨rfl, hb⟩
  have ht1 := ht.stays hb
  go_wp2
  go_loop [34] (fun i => i = .int .i64 0) (fun _ => 0)
  case atStart => rfl
  case round =>
    subst hrel
    go_wp2_with fail
    refine (HI _ ht1).mono ?_
    rintro e w2 ⟨rfl, hb2⟩
    go_wp2
    go_ret2
    exact ⟨by rw [← hcat]; rfl, hb.trans (hb2.mono hb.size)⟩

set_option maxHeartbeats 1600000 in
set_option maxRecDepth 100000 in
/-- A cell's text, where '$' is said or denied. -/
theorem coord_one (ab : Bool) (c r k g o : Nat) (w : World) (h1 : 1 ≤ c) (h2 : c ≤ 16384) (h3 : 1 ≤ r) (h4 : r ≤ 1048576) (ht : Tab w) (hg : g < w.heap.size) (hc : w.cell? ⟨g, o, none⟩ = some (.bool ab)) :
    Calls Tryz.prog 45 #[.int .i64 c, .int .i64 r, .slice (some ⟨g, o, none⟩) 1 k] w fun e w' => e = .returned (.tuple #[.string ⟨(cellText ab c r).toArray⟩, .nilIface]) ∧ Below w.heap.size w w' := by
  have hSz : (⟨(colName c).toArray⟩ : ByteArray).size ≤ 3 := by
    show (colName c).toArray.size ≤ 3
    have := (colName_len c h1 h2).2
    simpa using this
  have hDz : (⟨(Lib.decDigits r).toArray⟩ : ByteArray).size ≤ 7 := by
    show (Lib.decDigits r).toArray.size ≤ 7
    have := digits_short 6 r (by omega)
    simpa using this
  have HCC : Hid (cellText false c r = colName c ++ Lib.decDigits r) := rfl
  have HCT : Hid (cellText true c r = 36 :: (colName c ++ 36 :: Lib.decDigits r)) := rfl
  go_enter Tryz.func45, Tryz.ntmps45
  go_wp2_with fail
  refine (number_any c _ h1 h2).mono ?_
  have hcf : (⟨(colName c).toArray⟩ : ByteArray) ++ ⟨(Lib.decDigits r).toArray⟩ = ⟨(cellText false c r).toArray⟩ := str_append _ _
  have hct : (⟨#[36]⟩ ++ ⟨(colName c).toArray⟩ ++ ⟨#[36]⟩ : ByteArray) ++ ⟨(Lib.decDigits r).toArray⟩ = ⟨(cellText true c r).toArray⟩ := by
    have e0 : (⟨#[36]⟩ : ByteArray) = ⟨[36].toArray⟩ := rfl
    rw [e0, str_append, str_append, str_append]
    unfold cellText
    simp
  have HI := fun w ht => itoa_any r (by omega) w ht
  generalize (⟨(colName c).toArray⟩ : ByteArray) = S at *
  generalize (⟨(Lib.decDigits r).toArray⟩ : ByteArray) = D at *
  have s36 : (⟨#[36]⟩ : ByteArray).size = 1 := rfl
  have ra : ∀ w, (Op.stringOp .add S D).run Tryz.prog w = .ok (.string (S ++ D)) w := fun w => run_string_add_sum _ _ _ (by omega)
  have rb : ∀ w, (Op.stringOp .add ⟨#[36]⟩ S).run Tryz.prog w = .ok (.string (⟨#[36]⟩ ++ S)) w := fun w => run_string_add_sum _ _ _ (by omega)
  have rc : ∀ w, (Op.stringOp .add (⟨#[36]⟩ ++ S) ⟨#[36]⟩).run Tryz.prog w = .ok (.string (⟨#[36]⟩ ++ S ++ ⟨#[36]⟩)) w := fun w => run_string_add_sum _ _ _ (by rw [ByteArray.size_append]; omega)
  have rd : ∀ w, (Op.stringOp .add (⟨#[36]⟩ ++ S ++ ⟨#[36]⟩) D).run Tryz.prog w = .ok (.string (⟨#[36]⟩ ++ S ++ ⟨#[36]⟩ ++ D)) w := fun w => run_string_add_sum _ _ _ (by rw [ByteArray.size_append, ByteArray.size_append]; omega)
  clear s36
  rintro e w1 ⟨rfl, hb⟩
  have ht1 := ht.stays hb
  have c1 := (hb.cell (p := ⟨g, o, none⟩) hg).trans hc
  clear hc
  cases ab with
  | true =>
    go_wp2
    go_loop [34] (fun i => i = .int .i64 0) (fun _ => 0)
    case atStart => rfl
    case round =>
      subst hrel
      go_wp2_with fail
      refine (HI _ ht1).mono ?_
      rintro e w2 ⟨rfl, hb2⟩
      go_wp2
      go_ret2
      exact ⟨by rw [← hct]; rfl, hb.trans (hb2.mono hb.size)⟩
  | false =>
    go_wp2
    go_loop [34, 11] (fun i _ => i = .int .i64 0 ∨ i = .int .i64 1) (fun i _ => match i with | .int _ x => 1 - x.toNat | _ => 0)
    case atStart => exact .inl rfl
    case round =>
      rcases hrel with rfl | rfl
      · go_wp2
        go_round
        case rel => exact .inr rfl
        case measure => decide
      · go_wp2_with fail
        refine (HI _ ht1).mono ?_
        rintro e w2 ⟨rfl, hb2⟩
        go_wp2
        go_ret2
        exact ⟨by rw [← hcf]; rfl, hb.trans (hb2.mono hb.size)⟩

/-- What the slice behind 'abs' says: nothing (and so no), or its one element. -/
def AbsIs (w : World) (ab : Bool) (A : Option Addr) (m : Nat) : Prop :=
  (m = 0 ∧ ab = false) ∨ (m = 1 ∧ ∃ g o, A = some ⟨g, o, none⟩ ∧ g < w.heap.size ∧ w.cell? ⟨g, o, none⟩ = some (.bool ab))

theorem AbsIs.stays {w w' : World} {ab : Bool} {A : Option Addr} {m : Nat} (h : AbsIs w ab A m) (hb : Below w.heap.size w w') : AbsIs w' ab A m := by
  rcases h with h | ⟨h1, g, o, h2, h3, h4⟩
  · exact .inl h
  · exact .inr ⟨h1, g, o, h2, Nat.lt_of_lt_of_le h3 hb.size, (hb.cell (p := ⟨g, o, none⟩) h3).trans h4⟩

theorem coord_any (ab : Bool) (c r m k : Nat) (A : Option Addr) (w : World) (h1 : 1 ≤ c ∧ c ≤ 16384) (h3 : 1 ≤ r ∧ r ≤ 1048576) (ht : Tab w) (ha : AbsIs w ab A m) :
    Calls Tryz.prog 45 #[.int .i64 c, .int .i64 r, .slice A m k] w fun e w' => e = .returned (.tuple #[.string ⟨(cellText ab c r).toArray⟩, .nilIface]) ∧ Below w.heap.size w w' := by
  rcases ha with ⟨rfl, rfl⟩ | ⟨rfl, g, o, rfl, hg, hc⟩
  · exact coord_nil c r k A w h1.1 h1.2 h3.1 h3.2 ht
  · exact coord_one ab c r k g o w h1.1 h1.2 h3.1 h3.2 ht hg hc

set_option maxHeartbeats 1600000 in
set_option maxRecDepth 100000 in
theorem ref_any (ab : Bool) (b k m k' : Nat) (A : Option Addr) (p q x y : Nat) (w0 w : World) (h : Four w0 w b p q x y) (hp : 1 ≤ p ∧ p ≤ 16384) (hq : 1 ≤ q ∧ q ≤ 1048576) (hx : 1 ≤ x ∧ x ≤ 16384) (hy : 1 ≤ y ∧ y ≤ 1048576) (ht : Tab w) (ha : AbsIs w ab A m) :
    Calls Tryz.prog 46 #[.slice (some ⟨b, 0, none⟩) 4 k, .slice A m k'] w fun e w' => e = .returned (.tuple #[.string ⟨(areaText ab p q x y).toArray⟩, .nilIface]) ∧ Below w.heap.size w w' := by
  have c0 := h.c0
  have c1 := h.c1
  have c2 := h.c2
  have c3 := h.c3
  have hold := h.old
  have hX : (⟨(cellText ab p q).toArray⟩ : ByteArray).size ≤ 12 := by
    show (cellText ab p q).toArray.size ≤ 12
    simpa using cellText_len ab p q hp.1 hp.2 hq.2
  have hY : (⟨(cellText ab x y).toArray⟩ : ByteArray).size ≤ 12 := by
    show (cellText ab x y).toArray.size ≤ 12
    simpa using cellText_len ab x y hx.1 hx.2 hy.2
  have hcat : (⟨(cellText ab p q).toArray⟩ ++ ⟨#[58]⟩ : ByteArray) ++ ⟨(cellText ab x y).toArray⟩ = ⟨(areaText ab p q x y).toArray⟩ := by
    have e0 : (⟨#[58]⟩ : ByteArray) = ⟨[58].toArray⟩ := rfl
    rw [e0, str_append, str_append]
    unfold areaText
    simp
  have H1 := fun w ht ha => coord_any ab p q m k' A w hp hq ht ha
  have H2 := fun w ht ha => coord_any ab x y m k' A w hx hy ht ha
  generalize (⟨(cellText ab p q).toArray⟩ : ByteArray) = X at *
  generalize (⟨(cellText ab x y).toArray⟩ : ByteArray) = Y at *
  have s58 : (⟨#[58]⟩ : ByteArray).size = 1 := rfl
  have ra : ∀ w, (Op.stringOp .add X ⟨#[58]⟩).run Tryz.prog w = .ok (.string (X ++ ⟨#[58]⟩)) w := fun w => run_string_add_sum _ _ _ (by omega)
  have rb : ∀ w, (Op.stringOp .add (X ++ ⟨#[58]⟩) Y).run Tryz.prog w = .ok (.string (X ++ ⟨#[58]⟩ ++ Y)) w := fun w => run_string_add_sum _ _ _ (by rw [ByteArray.size_append]; omega)
  have ht0 := ht.stays (Below.refl _ _).drew
  have ha0 := ha.stays (Below.refl _ _).drew
  clear s58 hX hY hp hq hx hy
  go_enter Tryz.func46, Tryz.ntmps46
  go_wp2_with fail
  go_region_held3 (fun w' => w'.cell? ⟨b, 0, none⟩ = some (.int .i64 p) ∧ w'.cell? ⟨b, 1, none⟩ = some (.int .i64 q))
    (first | exact ⟨c0, c1⟩ | exact ⟨d0, d1⟩ | assumption)
    (first | (go_at_call 45; refine (H1 _ ht0 ha0).mono ?_; rintro e w1 ⟨rfl, hb1⟩; have d0 := (hb1.cell (p := ⟨b, 0, none⟩) hold).trans c0; have d1 := (hb1.cell (p := ⟨b, 1, none⟩) hold).trans c1))
  replace hb1 : Below w.heap.size w w1 := (Below.refl _ _).drew.trans hb1
  replace c2 := (hb1.cell (p := ⟨b, 2, none⟩) hold).trans c2
  replace c3 := (hb1.cell (p := ⟨b, 3, none⟩) hold).trans c3
  have hold1 : b < w1.heap.size := Nat.lt_of_lt_of_le hold hb1.size
  have ht1 := (ht.stays hb1).stays (Below.refl _ _).drew
  have ha1 := (ha.stays hb1).stays (Below.refl _ _).drew
  clear d0 d1 c0 c1 ht0 ha0 ht ha H1
  go_wp2_with fail
  go_region_held3 (fun w' => w'.cell? ⟨b, 2, none⟩ = some (.int .i64 x) ∧ w'.cell? ⟨b, 3, none⟩ = some (.int .i64 y))
    (first | exact ⟨c2, c3⟩ | exact ⟨d2, d3⟩ | assumption)
    (first | (go_at_call 45; refine (H2 _ ht1 ha1).mono ?_; rintro e w2 ⟨rfl, hb2⟩; have d2 := (hb2.cell (p := ⟨b, 2, none⟩) hold1).trans c2; have d3 := (hb2.cell (p := ⟨b, 3, none⟩) hold1).trans c3))
  have hB : Below w.heap.size w w2 := hb1.trans (((Below.refl _ _).drew.trans hb2).mono hb1.size)
  clear hb1 hb2 d2 d3 c2 c3 ht1 ha1 H2
  go_wp2
  go_ret2
  exact ⟨by rw [← hcat]; rfl, hB⟩
end Go.Proofs.YtokooampmhcfeaaGreatDoor.Rg
