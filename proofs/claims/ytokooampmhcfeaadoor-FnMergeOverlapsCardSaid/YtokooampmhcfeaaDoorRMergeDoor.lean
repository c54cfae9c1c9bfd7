/- The door to the merging of areas, and the thin package's call of it. -/
import Derived.Test.YtokooampmhcfeaaDoorRMergeRun
namespace Go.Proofs.YtokooampmhcfeaaDoor.Rg
open Go.RowKit

def StrsPost (w : World) (T : List (List UInt8)) (e : Ending) (w' : World) : Prop := ∃ (A : Option Addr) (m c : Nat), e = .returned (.tuple #[.slice A m c, .bool true]) ∧ OwnsS w' w.heap.size A m c T ∧ Below w.heap.size w w'

theorem strs_snoc (T : List (List UInt8)) (t : List UInt8) : strs (T ++ [t]) = strs T ++ [.string ⟨t.toArray⟩] := by
  unfold strs
  rw [List.map_append]
  rfl

theorem CellsFrom.snoc0 {w : World} {G : List Nat} {T : List (List UInt8)} (h : CellsFrom w 0 G (fun _ => .slice none 0 0) T) {g : Nat} {t : List UInt8} (hg : CRec w g (.slice none 0 0) t) : CellsFrom w 0 (G ++ [g]) (fun _ => .slice none 0 0) (T ++ [t]) := by
  refine ⟨by simp [h.len], fun i u b _ hu hb => ?_⟩
  rcases Nat.lt_or_ge i G.length with hi | hi
  · rw [List.getElem?_append_left hi] at hu
    rw [List.getElem?_append_left (by rw [← h.len]; exact hi)] at hb
    exact h.recs i u b (Nat.zero_le _) hu hb
  · rw [List.getElem?_append_right hi] at hu
    rw [List.getElem?_append_right (by rw [← h.len]; exact hi), ← h.len] at hb
    cases hk : i - G.length with
    | zero =>
      rw [hk] at hu hb
      simp at hu hb
      subst hu
      subst hb
      exact hg
    | succ k =>
      rw [hk] at hu
      simp at hu

set_option maxHeartbeats 6400000 in
set_option maxRecDepth 100000 in
theorem mergedoor_any (A : Option Addr) (n c : Nat) (L F : List Ar) (w : World) (hn : n = L.length) (hn2 : n ≤ 100) (hA : RdS w A (texts L)) (hL : ∀ a ∈ L, Good a) (hF : Runs L F) (hFL : F.length ≤ 100) (hFG : ∀ a ∈ F, Good a) (hTab : Tab w) :
    Calls Tryd.prog 31 #[.slice A n c] w (StrsPost w (texts F)) := by
  obtain ⟨i0, hi, hz0, hz1, hz2⟩ := info_parts infoString
  obtain ⟨p0, hp, hx0, hx1, hx2⟩ := info_parts infoPtr
  have HN := Lib.hid hn
  have HA := Lib.hid hA
  have HL := Lib.hid hL
  have HF := Lib.hid hF
  have HFG := Lib.hid hFG
  have HTAB := Lib.hid hTab
  clear hn hA hL hF hFG hTab
  go_enter Tryd.func31, Tryd.ntmps31
  go_wp2
  have hbA : Below w.heap.size w ((w.alloc (.cells #[.int .i64 0, .slice none 0 0] 80)).alloc (.cells #[.string ⟨#[]⟩, .slice none 0 0, .pointer none, .pointer (some ⟨w.heap.size, 0, none⟩), .pointer none, .pointer none, .slice none 0 0, .slice none 0 0, .pointer none, .slice none 0 0] 92)) := ((Below.refl _ _).alloc (Nat.le_refl _) _).alloc (by simp) _
  have hSA : Sheet ((w.alloc (.cells #[.int .i64 0, .slice none 0 0] 80)).alloc (.cells #[.string ⟨#[]⟩, .slice none 0 0, .pointer none, .pointer (some ⟨w.heap.size, 0, none⟩), .pointer none, .pointer none, .slice none 0 0, .slice none 0 0, .pointer none, .slice none 0 0] 92)) (w.heap.size + 1) w.heap.size := by
    refine ⟨Tag.made _ _ _ _ (by simp), (Tag.made w _ _ _ rfl).below ((Below.refl _ _).alloc (Nat.le_refl _) _), ?_, ⟨.int .i64 0, ?_⟩, ⟨.slice none 0 0, ?_⟩⟩
    · simp [go_sem, ptr]
    · simp [go_sem]
    · simp [go_sem]
  have hMA : ((w.alloc (.cells #[.int .i64 0, .slice none 0 0] 80)).alloc (.cells #[.string ⟨#[]⟩, .slice none 0 0, .pointer none, .pointer (some ⟨w.heap.size, 0, none⟩), .pointer none, .pointer none, .slice none 0 0, .slice none 0 0, .pointer none, .slice none 0 0] 92)).cell? ⟨w.heap.size, 1, none⟩ = some (.slice none 0 0) := by simp [go_sem]
  have HSA := Lib.hid hSA
  have HMA := Lib.hid hMA
  have HBA := Lib.hid hbA
  clear hSA hMA hbA
  generalize (w.alloc (.cells #[.int .i64 0, .slice none 0 0] 80)).alloc (.cells #[.string ⟨#[]⟩, .slice none 0 0, .pointer none, .pointer (some ⟨w.heap.size, 0, none⟩), .pointer none, .pointer none, .slice none 0 0, .slice none 0 0, .pointer none, .slice none 0 0] 92) = wA at *
  obtain ⟨M, hM⟩ : ∃ M, M = w.heap.size := ⟨_, rfl⟩
  obtain ⟨W, hW⟩ : ∃ W, W = w.heap.size + 1 := ⟨_, rfl⟩
  rw [← hW, ← hM] at HSA
  rw [← hM] at HMA
  rw [← hW]
  have hM0 : w.heap.size ≤ M := by omega
  clear hM hW
  go_loopw [17] (fun i wr => ∃ (k : Nat) (Ag : Option Addr) (cg : Nat) (G : List Nat), k ≤ n ∧ i = .int .i64 k ∧ Hid (Sheet wr W M) ∧ Hid (wr.cell? ⟨M, 1, none⟩ = some (.slice Ag k cg)) ∧ Hid (wr.ownsRow w.heap.size 93 1 (.slice Ag k cg) k (G.map ptr)) ∧ Hid (CellsFrom wr 0 G (fun _ => .slice none 0 0) ((texts L).take k)) ∧ Hid (G.Nodup ∧ ∀ g ∈ G, w.heap.size ≤ g ∧ g < wr.heap.size) ∧ Hid (Below w.heap.size w wr)) (fun i _ => n - (intOf i).toNat)
  case atStart => exact ⟨0, none, 0, [], by omega, rfl, HSA, HMA, World.ownsRow_nil _ _ _ _, ⟨rfl, fun i g t _ hg _ => by simp at hg⟩, ⟨List.nodup_nil, by simp⟩, HBA⟩
  clear HSA HMA HBA wA
  case round =>
    obtain ⟨k, Ag, cg, G, hkn, rfl, HS, HM, HP, HC, HND, HB⟩ := hrel
    by_cases hkl : k < n
    · have hkL : k < L.length := by rw [← HN.out]; exact hkl
      obtain ⟨ga, rfl, hga, hca⟩ := (HA.out.later HB.out) (by show 0 < (L.map Ar.text).length; rw [List.length_map]; omega)
      have hkL' : L[k]? = some L[k] := List.getElem?_eq_getElem hkL
      have cA := hca k L[k].text (by simp [texts, hkL'])
      have htx : (texts L).take (k + 1) = (texts L).take k ++ [L[k].text] := by
        unfold texts
        rw [List.take_add_one, List.getElem?_map, hkL']
        rfl
      have HTX := Lib.hid htx
      generalize L[k].text = tk at cA HTX
      clear hca hkL' hkL htx
      have i0' : (0 : Int) ≤ (k : Int) := by omega
      have i1' : (k : Int) < (n : Int) := by omega
      have hS1 := HS.out
      have hM1 := HM.out
      have hP1 := HP.out
      have hs1 := HB.out.size
      have HSS : Hid (∀ w', Below wr.heap.size wr w' → (w'.cell? ⟨W, 3, none⟩ = some (.pointer (some ⟨M, 0, none⟩)) ∧ w'.cell? ⟨M, 1, none⟩ = some (.slice Ag k cg))) :=
        fun w' hb => ⟨(Same.of_below hb hS1.wt.lt).cell.trans hS1.wc, (Same.of_below hb hS1.mt.lt).cell.trans hM1⟩
      have hS0 := HSS.out _ (Below.refl _ _).drew
      have hba : Below wr.heap.size wr (wr.alloc (.cells #[.slice none 0 0, .string ⟨tk.toArray⟩] 95)).drew := ((Below.refl _ _).alloc (Nat.le_refl _) _).drew
      have hbb : Below wr.heap.size wr ((wr.alloc (.cells #[.slice none 0 0, .string ⟨tk.toArray⟩] 95)).alloc (.cells #[ptr wr.heap.size] 93)).drew := (((Below.refl _ _).alloc (Nat.le_refl _) _).alloc (by simp) _).drew
      have hSa := HSS.out _ hba
      have hSb := HSS.out _ hbb
      have hPb := own_below hP1 hbb
      have hnw : ∀ j u, [ptr wr.heap.size][j]? = some u → ((wr.alloc (.cells #[.slice none 0 0, .string ⟨tk.toArray⟩] 95)).alloc (.cells #[ptr wr.heap.size] 93)).drew.cell? ((⟨wr.heap.size + 1, 0, none⟩ : Addr).add j) = some u := newAt (wr.alloc (.cells #[.slice none 0 0, .string ⟨tk.toArray⟩] 95)) [ptr wr.heap.size] _ _ (by simp)
      have HCT : Hid (CRec ((wr.alloc (.cells #[.slice none 0 0, .string ⟨tk.toArray⟩] 95)).alloc (.cells #[ptr wr.heap.size] 93)).drew wr.heap.size (.slice none 0 0) tk) := by
        have h0 : CRec (wr.alloc (.cells #[.slice none 0 0, .string ⟨tk.toArray⟩] 95)) wr.heap.size (.slice none 0 0) tk := ⟨Tag.made wr _ _ _ rfl, by simp [go_sem], by simp [go_sem]⟩
        exact h0.same (Same.of_below (((Below.refl _ _).alloc (Nat.le_refl _) _).drew) h0.tag.lt)
      have HKX : Hid (KeepBut wr ((wr.alloc (.cells #[.slice none 0 0, .string ⟨tk.toArray⟩] 95)).alloc (.cells #[ptr wr.heap.size] 93)).drew 93) := (KeepAll.below hbb).but _
      clear HSS
      unfold ptr at hPb HKX
      unfold ptr at hnw hSb hbb HCT
      go_wp2_with fail
      refine wp_region_last (List.replicate 19 false) [true, true, true, true, true, true, true, true, true, true, true, true, true, false, false, false, false, true, false] (S := fun w' => w'.cell? ⟨W, 3, none⟩ = some (.pointer (some ⟨M, 0, none⟩)) ∧ w'.cell? ⟨M, 1, none⟩ = some (.slice Ag k cg)) (by kernel_rfl) (by kernel_rfl) (by kernel_rfl) (fun d _ _ _ _ h => by cases d <;> exact h) hS0 ?_
      simp only [List.replicate, swaps]
      iterate 13
        refine seqT_take (v := ?_) (by rfl) ?_ ?_
        rotate_left
        · intro w' hSw
          obtain ⟨s3, s1⟩ := hSw
          go_simp
          try (with_reducible rfl)
        try simp only [Act.put, List.setIfInBounds_toArray, List.set_cons_zero, List.set_cons_succ]

      refine seqT_solo (by rfl) (fun K hK => ?_)
      go_simp
      refine hK.out _ _ (fun _ => hSa) ?_
      clear hK K
      try simp only [Act.put, List.setIfInBounds_toArray, List.set_cons_zero, List.set_cons_succ]
      refine seqT_solo (by rfl) (fun K hK => ?_)
      go_simp
      refine hK.out _ _ (fun _ => hSb) ?_
      clear hK K
      try simp only [Act.put, List.setIfInBounds_toArray, List.set_cons_zero, List.set_cons_succ]
      refine seqT_solo (by rfl) (fun K hK => ?_)
      refine wp_append_lies _ _ _ 78 (by rfl) w.heap.size 93 p0 _ 1 8 Tryd.underlying78 hp hx0 hx1 hx2 (by rfl) (by decide) _ _ _ (by rfl) hPb ⟨wr.heap.size + 1, 0, none⟩ 1 1 [.pointer (some ⟨wr.heap.size, 0, none⟩)] (by rfl) (by rfl) hnw ?h1 (by decide) ?h2 ?h3 ?h4 _ rfl ?_
      case h1 => intro u hu; simp at hu; subst hu; rfl
      case h2 => unfold maxLen; omega
      case h3 => omega
      case h4 => exact Nat.le_trans hs1 hbb.size
      intro g cap w4 hown4 hgrow hat hlt4
      have hKG0 := KeepBut.grown hgrow hPb
      have hKG := HKX.out.trans hKG0
      have hS4 := hS1.keep hKG (by decide) (by decide)
      have hM4 := (hKG M _ (by decide) hS1.mt).cell.trans hM1
      have hct4 := HCT.out.same (hKG0 _ _ (by decide) HCT.out.tag)
      have hC4 := (HC.out.keep hKG (by decide)).snoc0 hct4
      have hz4 : wr.heap.size < w4.heap.size := hct4.tag.lt
      have hB4 := (HB.out.trans (hbb.mono hs1)).grown hgrow (Nat.le_trans hs1 hbb.size) (fun j hj => (hPb.lt j hj).1)
      have fM4 := hS4.mt.free 1
      have hS4c := hS4.wc
      unfold ptr at hS4c
      clear hgrow hat hlt4 HCT HKX hPb hnw hSa hSb hba hbb hS0 hS1 hM1 hP1 HS HM HP HC HB hKG hKG0 hct4
      refine hK.out _ _ (fun _ => ⟨hS4c, hM4⟩) ?_
      clear hK K
      try simp only [Act.put, List.setIfInBounds_toArray, List.set_cons_zero, List.set_cons_succ]
      refine seqT_solo (by rfl) (fun K hK => ?_)
      go_simp
      refine hK.out _ _ (fun _ => ⟨hS4c, hM4⟩) ?_
      clear hK K
      try simp only [Act.put, List.setIfInBounds_toArray, List.set_cons_zero, List.set_cons_succ]
      iterate 1
        refine seqT_take (v := ?_) (by rfl) ?_ ?_
        rotate_left
        · intro w' hSw
          obtain ⟨s3, s1⟩ := hSw
          go_simp
          try (with_reducible rfl)
        try simp only [Act.put, List.setIfInBounds_toArray, List.set_cons_zero, List.set_cons_succ]

      refine seqT_solo (by rfl) (fun K hK => ?_)
      go_simp
      refine hK.out _ _ (fun h => absurd rfl h) ?_
      clear hK K
      try simp only [Act.put, List.setIfInBounds_toArray, List.set_cons_zero, List.set_cons_succ]
      refine seqT_done ?_
      have hKM := KeepBut.set hS4.mt 1 (.slice (some ⟨g, 0, none⟩) (k + 1) cap)
      have HS5 := Lib.hid (hS4.setM 1 (.slice (some ⟨g, 0, none⟩) (k + 1) cap))
      have HM5 := Lib.hid (set_same w4 M 1 (.slice (some ⟨g, 0, none⟩) (k + 1) cap) _ hM4)
      have HP5 := Lib.hid (hKM.own hown4 (by decide))
      have HC5 := Lib.hid (hC4.keep hKM (by decide))
      have HB5 := Lib.hid (hB4.setCell (p := ⟨M, 1, none⟩) hM0 (.slice (some ⟨g, 0, none⟩) (k + 1) cap))
      have HZ5 : Hid (wr.heap.size < (w4.setCell ⟨M, 1, none⟩ (.slice (some ⟨g, 0, none⟩) (k + 1) cap)).heap.size) := by
        show wr.heap.size < _
        simpa using hz4
      clear hS4 hM4 hC4 hB4 fM4 hS4c hKM hown4 hz4
      generalize w4.setCell ⟨M, 1, none⟩ (.slice (some ⟨g, 0, none⟩) (k + 1) cap) = w5 at *
      go_wp2
      go_roundw
      case rel =>
        refine ⟨k + 1, _, cap, G ++ [wr.heap.size], by omega, by go_num, HS5, HM5, ?_, ?_, ?_, HB5⟩
        · show w5.ownsRow w.heap.size 93 1 (.slice (some ⟨g, 0, none⟩) (k + 1) cap) (k + 1) ((G ++ [wr.heap.size]).map ptr)
          rw [List.map_append]
          exact HP5.out
        · rw [HTX.out]
          exact HC5
        · have h5 := HZ5.out
          refine ⟨?_, fun g hg => ?_⟩
          · rw [List.nodup_append]
            refine ⟨HND.out.1, by simp, fun a ha b hb => ?_⟩
            have := (HND.out.2 a ha).2
            simp only [List.mem_singleton] at hb
            omega
          · rcases List.mem_append.1 hg with h | h
            · have := HND.out.2 g h
              omega
            · simp only [List.mem_singleton] at h
              omega
      case measure => simp [intOf]; omega
    · obtain rfl : k = n := by omega
      have hCL : CellsFrom wr 0 G (fun _ => .slice none 0 0) (texts L) := by
        have h := HC.out
        rwa [List.take_of_length_le (by have := HN.out; unfold texts; rw [List.length_map]; omega)] at h
      have HCALL := Lib.hid (mergerun_any W M k cg Ag G L w wr HB.out HS.out hM0 HM.out HN.out hn2 HP.out (fun g hg => (HND.out.2 g hg).1) HND.out.1 hCL HL.out F HF.out HFG.out HTAB.out)
      clear hCL HS HM HP HC HND HB
      unfold ptr at HCALL
      go_wp2_with fail
      refine HCALL.out.mono ?_
      rintro e w1 ⟨A', m, c', G', rfl, hm, hS1, hM1, hP1, hX1, hB1⟩
      have hwc := hS1.wc
      unfold ptr at hwc
      have HMF := Lib.hid hm
      have HP := Lib.hid hP1
      have HX := Lib.hid hX1
      have HB := Lib.hid hB1
      clear hm hP1 hX1 hB1 HCALL hS1
      have hm100 : m ≤ 100 := by have := HMF.out; omega
      go_wp2
      clear hM1 hwc
      go_loopw [8, 50] (fun x i wr => ∃ (j : Nat), j ≤ m ∧ i = .int .i64 j ∧ Hid (wr.ownsRow w.heap.size 9 1 x j (strs ((texts F).take j))) ∧ Hid (wr.ownsRow w.heap.size 93 1 (.slice A' m c') m (G'.map ptr)) ∧ Hid (CellsTx wr G' (texts F)) ∧ Hid (Below w.heap.size w wr)) (fun _ i _ => m - (intOf i).toNat)
      case atStart => exact ⟨0, by omega, rfl, World.ownsRow_nil _ _ _ _, HP, HX, HB⟩
      clear HP HX HB
      case round =>
        obtain ⟨j, hjm, rfl, HV, HP, HX, HB⟩ := hrel
        by_cases hjl : j < m
        · have hjF : j < (texts F).length := by unfold texts; rw [List.length_map, ← HMF.out]; exact hjl
          have hjG : j < G'.length := by rw [HX.out.1]; exact hjF
          have hG : G'[j]? = some G'[j] := List.getElem?_eq_getElem hjG
          have hT : (texts F)[j]? = some (texts F)[j] := List.getElem?_eq_getElem hjF
          obtain ⟨gv, capv, hev, _, _⟩ := HP.out.form (by omega)
          obtain rfl : A' = some ⟨gv, 0, none⟩ := by injection hev
          clear hev
          have cP := HP.out.cells (g := gv) rfl j (ptr G'[j]) (by simp [hG])
          rw [addAt] at cP
          unfold ptr at cP
          have hct := HX.out.2 j _ _ hG hT
          have c1 := hct.c1
          have htx : (texts F).take (j + 1) = (texts F).take j ++ [(texts F)[j]] := by
            rw [List.take_add_one, hT]
            rfl
          have HTX := Lib.hid htx
          generalize G'[j] = gj at cP c1
          generalize (texts F)[j] = tj at c1 HTX
          clear htx hct hT hG hjG hjF
          have i0' : (0 : Int) ≤ (j : Int) := by omega
          have i1' : (j : Int) < (m : Int) := by omega
          have hv := HV.out
          have hs := HB.out.size
          have hka := (KeepAll.below ((Below.refl wr.heap.size wr).alloc (Nat.le_refl _) (.cells #[.string ⟨tj.toArray⟩] 9))).but 9
          go_wp2_with (at_builtin; refine wpList_append_own _ rfl _ _ 43 rfl w.heap.size 9 i0 _ 1 16 Tryd.underlying43 hi hz0 hz1 hz2 rfl (by decide) _ _ _ rfl (hv.alloc _) ⟨wr.heap.size, 0, none⟩ 1 1 [.string ⟨tj.toArray⟩] rfl rfl ?c1 ?c2 ?c3 ?c4 ?c5 ?_)
          case c1 => exact newAt _ [.string ⟨tj.toArray⟩] _ _ rfl
          case c2 => exact fun u hu => one_string u _ hu
          case c3 => unfold maxLen; omega
          case c4 => omega
          case c5 => simp; omega
          intro v' w2 hown' hgrow _
          have hKG := hka.trans (KeepBut.grown hgrow (hv.alloc _))
          have HO := Lib.hid hown'
          have HP2 := Lib.hid (hKG.own HP.out (by decide))
          have HX2 := Lib.hid (HX.out.keep hKG (by decide))
          have HB2 := Lib.hid ((HB.out.alloc hs _).grown hgrow (by simp; omega) (fun j hj => (hv.lt j hj).1))
          clear hown' hgrow hKG hka hv hs HV HP HX HB c1 cP
          go_wp2
          go_roundw
          case rel => exact ⟨j + 1, by omega, by go_num, by rw [HTX.out, strs_snoc]; exact HO.out, HP2, HX2, HB2⟩
          case measure => simp [intOf]; omega
        · obtain rfl : j = m := by omega
          obtain ⟨Ao, co, rfl⟩ := own_slice HV.out
          go_wp2_with fail
          go_quiet (fail)
          go_wp2
          go_ret2
          have hl : (texts F).take j = texts F := List.take_of_length_le (by have := HMF.out; unfold texts; rw [List.length_map]; omega)
          have hv := HV.out
          rw [hl] at hv
          exact ⟨Ao, j, co, rfl, ⟨own_below hv (below_drewN _ _), by have := HMF.out; unfold texts; rw [List.length_map]; omega⟩, HB.out.trans ((below_drewN _ _).mono HB.out.size)⟩

set_option maxHeartbeats 1000000 in
theorem impl_merge (A : Option Addr) (n c : Nat) (L F : List Ar) (w : World) (hn : n = L.length) (hn2 : n ≤ 100) (hA : RdS w A (texts L)) (hL : ∀ a ∈ L, Good a) (hF : Runs L F) (hFL : F.length ≤ 100) (hFG : ∀ a ∈ F, Good a) (hTab : Tab w) :
    Calls Tryd.prog 19 #[.slice A n c] w (StrsPost w (texts F)) := by
  have HC := Lib.hid (mergedoor_any A n c L F w hn hn2 hA hL hF hFL hFG hTab)
  clear hn hn2 hA hL hF hFL hFG hTab
  go_enter Tryd.func19, Tryd.ntmps19
  go_wp2_with fail
  refine HC.out.mono ?_
  rintro e w1 ⟨A', m, c', rfl, hO, hB⟩
  go_wp2
  go_ret2
  exact ⟨A', m, c', rfl, hO, hB⟩
end Go.Proofs.YtokooampmhcfeaaDoor.Rg
