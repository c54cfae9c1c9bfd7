/- The rows of one column are sorted. -/
import Derived.Test.YtokooampmhcfeaaGreatDoorFLess
import Derived.Test.YtokooampmhcfeaaGreatDoorSorts
import Derived.Shelf.GgSortFunc.Whole
import Derived.Shelf.GgSortFunc.Tiny
namespace Go.Proofs.YtokooampmhcfeaaGreatDoor.Rg
open Go.RowKit Go.Maps
open Go.Sort (putRow putCells grow SWO PermIn SortedIn Holds)
open Go.Proofs (sortWorld LessReads)

section
variable {α : Type} [Inhabited α]

/-- What the sort leaves: only the sorted row has turned. -/
theorem sorted_grown (enc : α → Value) (w : World) (blk off n : Nat) (d : Array α) (os : Array Obj) : w.grownBy (grow (putRow enc (Go.Sort.ahead w n) blk off d) os) (some blk) := by
  refine ⟨rfl, rfl, rfl, ?_, fun k hk hne => ?_⟩
  · simp [putRow, Go.Sort.mapBlock, Go.Sort.ahead]
  · rw [Go.Sort.heap_grow_old _ _ (by simpa [putRow, Go.Sort.mapBlock, Go.Sort.ahead] using hk)]
    have hkb : blk ≠ k := fun e => hne (by rw [e])
    simp [putRow, Go.Sort.mapBlock, Go.Sort.ahead, Array.getElem?_modify, hkb]

theorem sorted_own (enc : α → Value) {w : World} {base blk m c : Nat} {e : TypeId} {xs : List Value} (h : w.ownsRow base e 1 (.slice (some ⟨blk, 0, none⟩) m c) m xs) (n : Nat) (d : Array α) (hd : d.size = m) (os : Array Obj) :
    (grow (putRow enc (Go.Sort.ahead w n) blk 0 d) os).ownsRow base e 1 (.slice (some ⟨blk, 0, none⟩) m c) m (d.toList.map enc) := by
  refine ⟨by simp [hd], ?_⟩
  rcases h.2 with ⟨h0, _⟩ | ⟨g, cap, cur, hv, hbb, hg, hn, hc, hcs, ht⟩
  · cases h0
  · simp only [Value.slice.injEq, Option.some.injEq, Addr.mk.injEq] at hv
    obtain ⟨⟨rfl, _⟩, _, rfl⟩ := hv
    have hlt : blk < w.heap.size := (Array.getElem?_eq_some_iff.1 hg).1
    refine .inr ⟨blk, c, putCells enc 0 d cur, rfl, hbb, ?_, hn, hc, by simpa [putCells] using hcs, ?_⟩
    · rw [Go.Sort.heap_grow_old _ _ (by simpa [putRow, Go.Sort.mapBlock, Go.Sort.ahead] using hlt)]
      simp [putRow, Go.Sort.mapBlock, Go.Sort.ahead, Array.getElem?_modify, hg, Go.Sort.onCells]
    · apply List.ext_getElem?
      intro i
      by_cases hi : i < m
      · have hic : i < cur.size := by omega
        rw [List.getElem?_take_of_lt (by omega)]
        simp only [putCells, Array.getElem?_toList, Array.getElem?_mapIdx, Array.getElem?_eq_getElem hic, Option.map_some, List.getElem?_map]
        rw [if_pos ⟨Nat.zero_le _, by omega⟩, Array.getElem?_eq_getElem (by omega : i < d.size)]
        simp [getElem!_pos d i (by omega)]
      · rw [List.getElem?_eq_none (by rw [List.length_take]; omega), List.getElem?_eq_none (by simp; omega)]
end

theorem grownBy_cell' {w w' : World} {b g i : Nat} (h : w.grownBy w' (some b)) (hg : g < w.heap.size) (hne : g ≠ b) : w'.cell? ⟨g, i, none⟩ = w.cell? ⟨g, i, none⟩ :=
  World.cell?_of_block (w := w) (a := ⟨g, i, none⟩) (h.block g hg (fun e => hne (by cases e; rfl)))

/-- A row laid anew, with the same numbers: the map stays what it is. -/
theorem Grp.resort {w w' : World} {b base n : Nat} {D : DataW Value} {V : Int → Value} {G : Int → List (Int × Nat)} (h : Grp w b base n D V G) (hb : b < base) {z : Int} (hg : w.grownBy w' (V z).ownBlock) {X : List (Int × Nat)}
    (hown : w'.ownsRow base 32 1 (V z) X.length (X.map fun p => pairV p.2)) (hX : X.length = (G z).length) (hmem : ∀ p ∈ X, p ∈ G z) (hwf : (ik z).wf = true) : Grp w' b base n D V (upd G z X) := by
  have hk : KeepBut w w' 32 := KeepBut.grown hg (h.rows z)
  refine ⟨h.own.kept hg (fun e => ?_), h.at_, fun c hc => ?_, fun c => ?_, h.apart, fun c p hp => ?_, fun c => ?_⟩
  · have := ((h.rows z).lt b e.symm).1
    omega
  · by_cases hcz : c = z
    · subst hcz
      rw [upd_same, h.has c hwf]
      cases X with
      | nil => cases hG : G c with
        | nil => rfl
        | cons _ _ => rw [hG] at hX; simp at hX
      | cons _ _ => cases hG : G c with
        | nil => rw [hG] at hX; simp at hX
        | cons _ _ => rfl
    · rw [upd_other _ _ hcz]
      exact h.has c hc
  · by_cases hcz : c = z
    · subst hcz
      rw [upd_same]
      exact hown
    · rw [upd_other _ _ hcz]
      exact (h.rows c).kept hg (h.apart c z hcz)
  · have old : ∀ p ∈ G c, base ≤ p.2 ∧ w'.heap[p.2]? = some (.cells #[.int .i64 c, .int .i64 p.1] 3) := fun p hp =>
      ⟨(h.inner c p hp).1, Eq.trans (hk p.2 3 (by decide) (h.inTag hp)) (h.inner c p hp).2⟩
    by_cases hcz : c = z
    · subst hcz
      rw [upd_same] at hp
      exact old p (hmem p hp)
    · rw [upd_other _ _ hcz] at hp
      exact old p hp
  · by_cases hcz : c = z
    · subst hcz
      rw [upd_same, hX]
      exact h.len c
    · rw [upd_other _ _ hcz]
      exact h.len c

noncomputable def rowsT : TypeInfo := (Tryz.prog.info? 57).get (by kernel_rfl)
noncomputable def rowE : TypeInfo := (Tryz.prog.info? 32).get (by kernel_rfl)
theorem rowK (n : Nat) (h2 : 2 ≤ n) : Lib.swapperK n rowE 23 = 9 := by
  have a : rowE.hasPointers = true := by kernel_rfl
  have b : rowE.bytes = 24 := by kernel_rfl
  have c : (n == 0) = false := by simp; omega
  have d : (n == 1) = false := by simp; omega
  simp [Lib.swapperK, a, b, c, d]

def SortPost (w : World) (b base n : Nat) (D : DataW Value) (V : Int → Value) (G : Int → List (Int × Nat)) (z : Int) (e : Ending) (w' : World) : Prop :=
  e = .returned (.tuple #[]) ∧ ∃ X : List (Int × Nat), X.Perm (G z) ∧ X.Pairwise (fun p q => p.1 ≤ q.1) ∧ Grp w' b base n D V (upd G z X) ∧ w.grownBy w' (V z).ownBlock

/-- The cells of a row, as the sort takes them. -/
abbrev RowOf (X : List (Int × Nat)) : Type := { p : Int × Nat // p ∈ X }
def rowEnc {X : List (Int × Nat)} (p : RowOf X) : Value := pairV p.1.2
def rowLt {X : List (Int × Nat)} (p q : RowOf X) : Bool := decide (p.1.1 < q.1.1)
theorem rowSWO (X : List (Int × Nat)) : SWO (rowLt (X := X)) := by
  refine ⟨fun x => ?_, fun x y z h1 h2 => ?_, fun x y z h1 h2 => ?_⟩ <;> simp only [rowLt, decide_eq_true_eq, decide_eq_false_iff_not] at * <;> omega

theorem grownBy_drewN {w w' : World} {row : Option Nat} (h : w.grownBy w' row) (q : Nat) : w.grownBy (w'.drewN q) row := ⟨h.os, h.tape, h.output, h.size, h.block⟩

set_option maxHeartbeats 1600000 in
theorem col_less {W C b base n : Nat} {z : Int} {w : World} {D : DataW Value} {V : Int → Value} {G : Int → List (Int × Nat)} [Inhabited (RowOf (G z))] (h : Grp w b base n D V G) (hb : b < base) (hwf : (ik z).wf = true)
    (hW : w.cell? ⟨W, 0, none⟩ = some (.map (some b))) (hWb : W < base) (hWl : W < w.heap.size) (hC : w.cell? ⟨C, 0, none⟩ = some (.int .i64 z)) (hCt : Tag w C 3)
    {blk c : Nat} (hV : V z = .slice (some ⟨blk, 0, none⟩) (G z).length c) :
    LessReads Tryz.prog 37 #[.pointer (some ⟨W, 0, none⟩), .pointer (some ⟨C, 0, none⟩)] (rowEnc (X := G z)) rowLt blk 0 (G z).length w := by
  intro q os dk hs i j hi hj
  have hrow := h.rows z
  have hob : (V z).ownBlock = some blk := by rw [hV]; rfl
  have hbl := hrow.lt blk hob
  have hCb : C ≠ blk := by
    intro e
    subst e
    exact hCt.far hrow (by decide) hob
  have hg := sorted_grown (rowEnc (X := G z)) w blk 0 q dk os
  rw [hV] at hrow
  have hown := sorted_own (rowEnc (X := G z)) hrow q dk hs os
  have hX : (dk.toList.map fun p => p.1).length = (G z).length := by simp [hs]
  have e1 : dk.toList.map (rowEnc (X := G z)) = (dk.toList.map fun p => p.1).map fun p => pairV p.2 := by rw [List.map_map]; rfl
  have hG := h.resort (X := dk.toList.map fun p => p.1) hb (by rw [hob]; exact hg) (by rw [hX, ← e1, hV]; exact hown) hX (fun p hp => by obtain ⟨p', _, rfl⟩ := List.mem_map.1 hp; exact p'.2) hwf
  have ews : sortWorld (rowEnc (X := G z)) w blk 0 q dk os = grow (putRow (rowEnc (X := G z)) (Go.Sort.ahead w q) blk 0 dk) os := rfl
  rw [ews]
  have cellOf : ∀ k, k < (G z).length → (grow (putRow (rowEnc (X := G z)) (Go.Sort.ahead w q) blk 0 dk) os).cell? ⟨blk, k, none⟩ = some (.slice (some ⟨dk[k]!.1.2, 0, none⟩) 2 2) ∧
      (grow (putRow (rowEnc (X := G z)) (Go.Sort.ahead w q) blk 0 dk) os).cell? ⟨dk[k]!.1.2, 1, none⟩ = some (.int .i64 dk[k]!.1.1) := by
    intro k hk
    have hkd : k < dk.size := by omega
    refine ⟨?_, ?_⟩
    · have := hown.cells (g := blk) rfl k (pairV dk[k]!.1.2) (by simp [hkd, rowEnc])
      rwa [addAt] at this
    · have := (hG.inner z dk[k]!.1 (by rw [upd_same]; exact List.mem_map.2 ⟨dk[k]!, by rw [getElem!_pos dk k hkd]; simp, rfl⟩)).2
      simp [World.cell?, this]
  generalize (grow (putRow (rowEnc (X := G z)) (Go.Sort.ahead w q) blk 0 dk) os) = ws at *
  refine (less_any W C b blk (G z).length c i j _ _ z _ _ ws ?_ ?_ (fun q => ?_) hi hj (cellOf i hi).1 (cellOf j hj).1 (cellOf i hi).2 (cellOf j hj).2).mono (fun e w' h => h)
  · exact (grownBy_cell' hg hWl (by omega)).trans hW
  · exact (grownBy_cell' hg hCt.lt hCb).trans hC
  · have := (hG.keep (below_drewN ws q)).look hwf
    rwa [hV] at this

theorem sorted_list {X : List (Int × Nat)} [Inhabited (RowOf X)] {d d' : Array (RowOf X)} (hd : d.toList = X.attach) (hp : PermIn 0 d.size d d') (hs : SortedIn rowLt 0 d.size d') :
    (d'.toList.map fun p => p.1).Perm X ∧ (d'.toList.map fun p => p.1).Pairwise (fun p q => p.1 ≤ q.1) := by
  obtain ⟨h1, _, h3⟩ := hp
  have e : d.extract 0 d.size = d := by simp
  have e' : d'.extract 0 d.size = d' := by rw [← h1]; simp
  rw [e, e', hd] at h3
  refine ⟨?_, ?_⟩
  · have := h3.map (fun p : RowOf X => p.1)
    rwa [List.attach_map_subtype_val] at this
  · rw [List.pairwise_map, List.pairwise_iff_getElem]
    intro i j hi hj hij
    have hi' : i < d'.size := by simpa using hi
    have hj' : j < d'.size := by simpa using hj
    have := hs i j (Nat.zero_le _) hij (by omega)
    rw [getElem!_pos d' i hi', getElem!_pos d' j hj'] at this
    simp only [rowLt, decide_eq_false_iff_not] at this
    simp only [Array.getElem_toList]
    omega

set_option maxHeartbeats 1600000 in
theorem sort_col {W C b base n : Nat} {z : Int} {w : World} {D : DataW Value} {V : Int → Value} {G : Int → List (Int × Nat)} (h : Grp w b base n D V G) (hb : b < base) (hwf : (ik z).wf = true) (hne : G z ≠ []) (hlen : (G z).length < 4611686018427387904)
    (hW : w.cell? ⟨W, 0, none⟩ = some (.map (some b))) (hWb : W < base) (hWl : W < w.heap.size) (hC : w.cell? ⟨C, 0, none⟩ = some (.int .i64 z)) (hCt : Tag w C 3) :
    Calls Tryz.prog 27 #[.iface 57 (V z), .func (.func 37) #[] #[.pointer (some ⟨W, 0, none⟩), .pointer (some ⟨C, 0, none⟩)]] w (SortPost w b base n D V G z) := by
  have hpos : 0 < (G z).length := List.length_pos_iff.2 hne
  have hrow := h.rows z
  obtain ⟨blk, c, hV, hat⟩ := hrow.form hpos
  have hob : (V z).ownBlock = some blk := by rw [hV]; rfl
  have hbl := hrow.lt blk hob
  haveI : Inhabited (RowOf (G z)) := ⟨⟨(G z)[0], List.getElem_mem hpos⟩⟩
  by_cases h2 : 2 ≤ (G z).length
  · have hless := col_less h hb hwf hW hWb hWl hC hCt hV
    have hds : (G z).attach.toArray.size = (G z).length := by simp
    have hH : Holds (rowEnc (X := G z)) w blk 0 (G z).attach.toArray := by
      intro j hj
      rw [hds] at hj
      rw [hV] at hrow
      refine ⟨?_, hrow.frozenAt (0 + j)⟩
      have := hrow.cells (g := blk) rfl j (pairV (G z)[j].2) (by simp [hj])
      rw [addAt] at this
      rw [Nat.zero_add, this, getElem!_pos _ j (by simpa using hj)]
      simp [rowEnc]
    rw [hV]
    rw [← hds] at hless h2 hlen
    have hS := Go.Proofs.Any.sort_Slice_sorted Go.Proofs.Tryz.sl6 57 32 rowsT rowE (by kernel_rfl) (by kernel_rfl) (by kernel_rfl) (by kernel_rfl) 23 (fun _ => by kernel_rfl) (by kernel_rfl) (fun _ => by kernel_rfl) (rowEnc (X := G z)) (fun _ => rfl) rowLt (rowSWO _) 37 _
      (enters_of Tryz.func37 (by kernel_rfl) rfl) blk 0 c (G z).attach.toArray h2 hlen 63 (by rw [rowK _ h2]; kernel_rfl) false
      (fun args W => run_callFunc_extern Tryz.func63 (by kernel_rfl) (by kernel_rfl) (by kernel_rfl) (e := Extern.ReflectliteSwapper.swap false) (by kernel_rfl) args W) w hless hH hbl.2
    rw [hds] at hS
    refine hS.mono ?_
    rintro e w' ⟨rfl, d', q, os, hp, hs, rfl⟩
    have hs1 : d'.size = (G z).length := by rw [hp.1, hds]
    have hL := sorted_list (X := G z) (d := (G z).attach.toArray) rfl (by rw [hds]; exact hp) (by rw [hds]; exact hs)
    rw [hV] at hrow
    have hown := sorted_own (rowEnc (X := G z)) hrow q d' hs1 os
    have hg := sorted_grown (rowEnc (X := G z)) w blk 0 q d' os
    have e1 : d'.toList.map (rowEnc (X := G z)) = (d'.toList.map fun p => p.1).map fun p => pairV p.2 := by rw [List.map_map]; rfl
    have hX : (d'.toList.map fun p => p.1).length = (G z).length := by simp [hs1]
    exact ⟨rfl, _, hL.1, hL.2, h.resort hb (by rw [hob]; exact hg) (by rw [hX, ← e1, hV]; exact hown) hX (fun p hp => hL.1.mem_iff.1 hp) hwf, by rw [hob]; exact hg⟩
  · have h1 : (G z).length = 1 := by omega
    have hT := Go.Proofs.Any.sort_Slice_tiny Go.Proofs.Tryz.sl6 57 32 rowsT rowE (by kernel_rfl) (by kernel_rfl) (by kernel_rfl) (by kernel_rfl) 23 (fun _ => by kernel_rfl) (some ⟨blk, 0, none⟩) (G z).length c (by omega) 56 (by rw [h1]; kernel_rfl) (.func 37) #[] #[.pointer (some ⟨W, 0, none⟩), .pointer (some ⟨C, 0, none⟩)] w
    rw [hV]
    refine hT.mono ?_
    rintro e w' ⟨rfl, os, rfl⟩
    have hb' : Below w.heap.size w (grow w os) := below_more w 0 os
    obtain ⟨p, hp⟩ : ∃ p, G z = [p] := List.length_eq_one_iff.1 h1
    have hg := h.keep hb'
    have eU : upd G z (G z) = G := by
      funext d
      by_cases hd : d = z
      · subst hd
        rw [upd_same]
      · rw [upd_other _ _ hd]
    refine ⟨rfl, G z, List.Perm.refl _, by rw [hp]; simp, by rw [eU]; exact hg, ⟨hb'.os, hb'.tape, hb'.output, hb'.size, fun k hk _ => hb'.block k hk⟩⟩

/-- A step of the range: only the iterator turns. -/
theorem Grp.iter {w w' : World} {b base n r cnt : Nat} {D : DataW Value} {V : Int → Value} {G : Int → List (Int × Nat)} {left : Lit → Bool} (h : Grp w b base n D V G) (hr : w.ranges Tryz.prog 3 held b r n D left cnt) (hg : w.grownBy w' (some r)) : Grp w' b base n D V G := by
  have hne : ∀ g t, Tag w g t → g ≠ r := by
    rintro g t ⟨cs, hc⟩ rfl
    obtain ⟨es, clock, since, seen, c0, _, _, _, _, hi, _⟩ := hr
    rw [hc] at hi
    cases hi
  have hs : ∀ g t, Tag w g t → w'.heap[g]? = w.heap[g]? := fun g t ht => hg.block g ht.lt (fun e => hne g t ht (by cases e; rfl))
  refine ⟨h.own.kept hg (fun e => hr.ne (by cases e; rfl)), h.at_, h.has, fun c => own_same (h.rows c) (fun g hv => hs g _ (own_tag (h.rows c) g hv)), h.apart, fun c p hp => ⟨(h.inner c p hp).1, (hs p.2 _ (h.inTag hp)).trans (h.inner c p hp).2⟩, h.len⟩

/-- A row is not the iterator's block. -/
theorem Grp.far_iter {w : World} {b base n r cnt : Nat} {D : DataW Value} {V : Int → Value} {G : Int → List (Int × Nat)} {left : Lit → Bool} (h : Grp w b base n D V G) (hr : w.ranges Tryz.prog 3 held b r n D left cnt) (c : Int) : some r ≠ (V c).ownBlock := by
  intro e
  obtain ⟨cs, hc⟩ := own_tag (h.rows c) r e.symm
  obtain ⟨es, clock, since, seen, c0, _, _, _, _, hi, _⟩ := hr
  rw [hc] at hi
  cases hi

/-- The map, all of whose rows rise. -/
def Rise (w : World) (b base N : Nat) (F : Int → List Int) : Prop := ∃ (n : Nat) (D : DataW Value) (V : Int → Value) (G : Int → List (Int × Nat)), Grp w b base n D V G ∧ n ≤ N ∧ ∀ c, (ik c).wf = true → ((G c).map Prod.fst).Perm (F c) ∧ (G c).Pairwise (fun p q => p.1 ≤ q.1)

end Go.Proofs.YtokooampmhcfeaaGreatDoor.Rg
