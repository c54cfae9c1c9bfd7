/- The records of columns are sorted: rows of records of two cells. -/
import Derived.Test.YtokooampmhcfeaaGreatDoorFColLess
namespace Go.Proofs.YtokooampmhcfeaaGreatDoor.Rg
open Go.RowKit Go.Maps
open Go.Sort (putRow putCells grow SWO PermIn SortedIn Holds)

theorem sorted_ownS {α : Type} [Inhabited α] (enc : α → Value) {w : World} {base blk m c size : Nat} {e : TypeId} {xs : List Value} (h : w.ownsRow base e size (.slice (some ⟨blk, 0, none⟩) m c) m xs) (n : Nat) (d : Array α) (hd : d.size = m * size) (os : Array Obj) :
    (grow (putRow enc (Go.Sort.ahead w n) blk 0 d) os).ownsRow base e size (.slice (some ⟨blk, 0, none⟩) m c) m (d.toList.map enc) := by
  refine ⟨by simp [hd], ?_⟩
  rcases h.2 with ⟨h0, _⟩ | ⟨g, cap, cur, hv, hbb, hg, hn, hc, hcs, ht⟩
  · cases h0
  · simp only [Value.slice.injEq, Option.some.injEq, Addr.mk.injEq] at hv
    obtain ⟨⟨rfl, _⟩, _, rfl⟩ := hv
    have hlt : blk < w.heap.size := (Array.getElem?_eq_some_iff.1 hg).1
    have hmc : m * size ≤ cur.size := by rw [hcs]; exact Nat.mul_le_mul_right _ hn
    refine .inr ⟨blk, c, putCells enc 0 d cur, rfl, hbb, ?_, hn, hc, by simpa [putCells] using hcs, ?_⟩
    · rw [Go.Sort.heap_grow_old _ _ (by simpa [putRow, Go.Sort.mapBlock, Go.Sort.ahead] using hlt)]
      simp [putRow, Go.Sort.mapBlock, Go.Sort.ahead, Array.getElem?_modify, hg, Go.Sort.onCells]
    · apply List.ext_getElem?
      intro i
      by_cases hi : i < m * size
      · have hic : i < cur.size := by omega
        rw [List.getElem?_take_of_lt hi]
        simp only [putCells, Array.getElem?_toList, Array.getElem?_mapIdx, Array.getElem?_eq_getElem hic, Option.map_some, List.getElem?_map]
        rw [if_pos ⟨Nat.zero_le _, by omega⟩, Array.getElem?_eq_getElem (by omega : i < d.size)]
        simp [getElem!_pos d i (by omega)]
      · rw [List.getElem?_eq_none (by rw [List.length_take]; omega), List.getElem?_eq_none (by simp; omega)]

theorem flatK_list {α : Type} [Inhabited α] (enc : α → List Value) (k : Nat) (hk : 0 < k) (he : ∀ x, (enc x).length = k) (d : Array α) : (Go.Sort.flatK enc k d).toList = d.toList.flatMap enc := by
  apply List.ext_getElem?
  intro t
  by_cases ht : t < d.size * k
  · have h1 : t / k < d.size := Nat.div_lt_of_lt_mul (by rw [Nat.mul_comm]; exact ht)
    have h2 := Nat.mod_lt t hk
    have h3 := flat_cell enc k he d.toList (t / k) (t % k) d[t / k]! (by simp [h1]) h2
    rw [Nat.div_add_mod' t k] at h3
    rw [h3, Array.getElem?_toList, Array.getElem?_eq_getElem (by simpa using ht)]
    have h4 := Go.Sort.get_flatK enc k d t ht
    rw [getElem!_pos _ t (by simpa using ht)] at h4
    rw [h4, List.getElem?_eq_getElem (by rw [he]; exact h2), getElem!_pos _ (t % k) (by rw [he]; exact h2)]
  · rw [List.getElem?_eq_none (by simp; omega), List.getElem?_eq_none]
    rw [List.length_flatMap]
    have : (d.toList.map fun a => (enc a).length) = List.replicate d.size k := by
      rw [List.eq_replicate_iff]
      simp [he]
    rw [this]
    simp
    omega

noncomputable def colsT : TypeInfo := (Tryz.prog.info? 24).get (by kernel_rfl)
noncomputable def colsE : TypeInfo := (Tryz.prog.info? 38).get (by kernel_rfl)
theorem colsK (n : Nat) (h2 : 2 ≤ n) : Lib.swapperK n colsE 25 = 9 := by
  have a : colsE.hasPointers = true := by kernel_rfl
  have b : colsE.bytes = 32 := by kernel_rfl
  have c : (n == 0) = false := by simp; omega
  have d : (n == 1) = false := by simp; omega
  simp [Lib.swapperK, a, b, c, d]

/-- Records: a number, and a slice. -/
abbrev RecOf (K : List (Int × Value)) : Type := { p : Int × Value // p ∈ K }
def recEnc {K : List (Int × Value)} (p : RecOf K) : List Value := [.int .i64 p.1.1, p.1.2]
def recLt {K : List (Int × Value)} (p q : RecOf K) : Bool := decide (p.1.1 < q.1.1)
theorem recSWO (K : List (Int × Value)) : SWO (recLt (K := K)) := by
  refine ⟨fun x => ?_, fun x y z h1 h2 => ?_, fun x y z h1 h2 => ?_⟩ <;> simp only [recLt, decide_eq_true_eq, decide_eq_false_iff_not] at * <;> omega

set_option maxHeartbeats 1600000 in
theorem rec_less {w : World} {B O blk c : Nat} {K : List (Int × Value)} [Inhabited (RecOf K)] (hown : w.ownsRow B 38 2 (.slice (some ⟨blk, 0, none⟩) K.length c) K.length (K.flatMap fun p => [.int .i64 p.1, p.2]))
    (hO : w.cell? ⟨O, 0, none⟩ = some (.slice (some ⟨blk, 0, none⟩) K.length c)) (hOt : Tag w O 24) :
    Go.Proofs.LessReadsK Tryz.prog 28 #[.pointer (some ⟨O, 0, none⟩)] (recEnc (K := K)) 2 recLt blk 0 K.length w := by
  intro q os dk hs i j hi hj
  have hOb : O ≠ blk := fun e => hOt.far hown (by decide) (by rw [e]; rfl)
  have hg := sorted_grown id w blk 0 q (Go.Sort.flatK (recEnc (K := K)) 2 dk) os
  have ho := sorted_ownS id hown q (Go.Sort.flatK (recEnc (K := K)) 2 dk) (by simp [hs]) os
  have ews : Go.Proofs.sortWorldK (recEnc (K := K)) 2 w blk 0 q dk os = grow (putRow id (Go.Sort.ahead w q) blk 0 (Go.Sort.flatK (recEnc (K := K)) 2 dk)) os := rfl
  rw [ews]
  have cellOf : ∀ k, k < K.length → (grow (putRow id (Go.Sort.ahead w q) blk 0 (Go.Sort.flatK (recEnc (K := K)) 2 dk)) os).cell? ⟨blk, k * 2, none⟩ = some (.int .i64 dk[k]!.1.1) := by
    intro k hk
    have hkd : k < dk.size := by omega
    have h1 := ho.cells (g := blk) rfl (k * 2) (.int .i64 dk[k]!.1.1) (by
      rw [List.map_id, flatK_list _ 2 (by decide) (fun _ => rfl)]
      have := flat_cell (recEnc (K := K)) 2 (fun _ => rfl) dk.toList k 0 dk[k]! (by simp [hkd]) (by decide)
      exact this)
    rwa [addAt] at h1
  generalize (grow (putRow id (Go.Sort.ahead w q) blk 0 (Go.Sort.flatK (recEnc (K := K)) 2 dk)) os) = ws at *
  exact (col_less_any O blk K.length c i j _ _ ws ((grownBy_cell' hg hOt.lt hOb).trans hO) hi hj (cellOf i hi) (cellOf j hj)).mono (fun e w' h => h)

def RecsPost (w : World) (B : Nat) (v : Value) (K : List (Int × Value)) (e : Ending) (w' : World) : Prop :=
  e = .returned (.tuple #[]) ∧ ∃ X : List (Int × Value), X.Perm K ∧ X.Pairwise (fun p q => p.1 ≤ q.1) ∧ w'.ownsRow B 38 2 v K.length (X.flatMap fun p => [.int .i64 p.1, p.2]) ∧ w.grownBy w' v.ownBlock

theorem sorted_recs {K : List (Int × Value)} [Inhabited (RecOf K)] {d d' : Array (RecOf K)} (hd : d.toList = K.attach) (hp : PermIn 0 d.size d d') (hs : SortedIn recLt 0 d.size d') :
    (d'.toList.map fun p => p.1).Perm K ∧ (d'.toList.map fun p => p.1).Pairwise (fun p q => p.1 ≤ q.1) := by
  obtain ⟨h1, _, h3⟩ := hp
  have e : d.extract 0 d.size = d := by simp
  have e' : d'.extract 0 d.size = d' := by rw [← h1]; simp
  rw [e, e', hd] at h3
  refine ⟨?_, ?_⟩
  · have := h3.map (fun p : RecOf K => p.1)
    rwa [List.attach_map_subtype_val] at this
  · rw [List.pairwise_map, List.pairwise_iff_getElem]
    intro i j hi hj hij
    have hi' : i < d'.size := by simpa using hi
    have hj' : j < d'.size := by simpa using hj
    have := hs i j (Nat.zero_le _) hij (by omega)
    rw [getElem!_pos d' i hi', getElem!_pos d' j hj'] at this
    simp only [recLt, decide_eq_false_iff_not] at this
    simp only [Array.getElem_toList]
    omega

set_option maxHeartbeats 1600000 in
theorem sort_recs {w : World} {B O : Nat} {v : Value} {K : List (Int × Value)} (hown : w.ownsRow B 38 2 v K.length (K.flatMap fun p => [.int .i64 p.1, p.2])) (hone : ∀ p ∈ K, p.2.oneCell' = true)
    (hO : w.cell? ⟨O, 0, none⟩ = some v) (hOt : Tag w O 24) (hlen : K.length < 4611686018427387904) :
    Calls Tryz.prog 27 #[.iface 24 v, .func (.func 28) #[] #[.pointer (some ⟨O, 0, none⟩)]] w (RecsPost w B v K) := by
  by_cases h2 : 2 ≤ K.length
  · have hpos : 0 < K.length := by omega
    obtain ⟨blk, c, hV, _⟩ := hown.form hpos
    subst hV
    have hbl := hown.lt blk rfl
    haveI : Inhabited (RecOf K) := ⟨⟨K[0], List.getElem_mem hpos⟩⟩
    have hless := rec_less hown hO hOt
    have hds : K.attach.toArray.size = K.length := by simp
    have hH : Go.Sort.HoldsK (recEnc (K := K)) 2 w blk 0 K.attach.toArray := by
      intro j hj
      rw [Go.Sort.size_flatK, hds] at hj
      refine ⟨?_, hown.frozenAt (0 + j)⟩
      have hj' : j < (Go.Sort.flatK (recEnc (K := K)) 2 K.attach.toArray).size := by simpa using hj
      have e := flatK_list (recEnc (K := K)) 2 (by decide) (fun _ => rfl) K.attach.toArray
      have e2 : K.attach.toArray.toList.flatMap (recEnc (K := K)) = K.flatMap fun p => [.int .i64 p.1, p.2] := by
        have : K.attach.toArray.toList.flatMap (recEnc (K := K)) = (K.attach.map fun p => p.1).flatMap fun p => [Value.int .i64 p.1, p.2] := by
          rw [List.flatMap_map]
          rfl
        rw [this, List.attach_map_subtype_val]
      have := hown.cells (g := blk) rfl j (Go.Sort.flatK (recEnc (K := K)) 2 K.attach.toArray)[j]! (by
        rw [← e2, ← e, Array.getElem?_toList, Array.getElem?_eq_getElem hj', getElem!_pos _ j hj'])
      rw [addAt] at this
      rw [Nat.zero_add]
      exact this
    rw [← hds] at hless h2 hlen
    have hS := Go.Proofs.Any.sort_Slice_cells_sorted Go.Proofs.Tryz.sl6 24 38 colsT colsE (by kernel_rfl) (by kernel_rfl) (by kernel_rfl) (by kernel_rfl) 25 (fun _ => by kernel_rfl) (recEnc (K := K)) 2 (fun _ => rfl) (by kernel_rfl) (fun _ => by kernel_rfl)
      (fun x v hv => by simp only [recEnc, List.mem_cons, List.not_mem_nil, or_false] at hv; rcases hv with rfl | rfl; · rfl
                        · exact hone x.1 x.2) recLt (recSWO _) 28 _
      (enters_of Tryz.func28 (by kernel_rfl) rfl) blk 0 c K.attach.toArray h2 hlen 63 (by rw [colsK _ h2]; kernel_rfl) false
      (fun args W => run_callFunc_extern Tryz.func63 (by kernel_rfl) (by kernel_rfl) (by kernel_rfl) (e := Extern.ReflectliteSwapper.swap false) (by kernel_rfl) args W) w hless hH hbl.2
    rw [hds] at hS
    refine hS.mono ?_
    rintro e w' ⟨rfl, d', q, os, hp, hs, rfl⟩
    have hs1 : d'.size = K.length := by rw [hp.1, hds]
    have hL := sorted_recs (K := K) (d := K.attach.toArray) rfl (by rw [hds]; exact hp) (by rw [hds]; exact hs)
    have ho := sorted_ownS id hown q (Go.Sort.flatK (recEnc (K := K)) 2 d') (by simp [hs1]) os
    have hg := sorted_grown id w blk 0 q (Go.Sort.flatK (recEnc (K := K)) 2 d') os
    rw [List.map_id, flatK_list _ 2 (by decide) (fun _ => rfl)] at ho
    have e1 : d'.toList.flatMap (recEnc (K := K)) = (d'.toList.map fun p => p.1).flatMap fun p => [Value.int .i64 p.1, p.2] := by rw [List.flatMap_map]; rfl
    rw [e1] at ho
    exact ⟨rfl, _, hL.1, hL.2, ho, hg⟩
  · obtain ⟨A, c, rfl⟩ := own_slice hown
    have hst : K.Pairwise (fun p q => p.1 ≤ q.1) := by
      match K, h2 with
      | [], _ => exact List.Pairwise.nil
      | [_], _ => simp
      | _ :: _ :: _, h2 => exact absurd (by simp) h2
    have fin : ∀ e w', (e = Ending.returned (.tuple #[]) ∧ ∃ os, w' = grow w os) → RecsPost w B (.slice A K.length c) K e w' := by
      rintro e w' ⟨rfl, os, rfl⟩
      have hb' : Below w.heap.size w (grow w os) := below_more w 0 os
      exact ⟨rfl, K, List.Perm.refl _, hst, own_below hown hb', ⟨hb'.os, hb'.tape, hb'.output, hb'.size, fun k hk _ => hb'.block k hk⟩⟩
    rcases (show K.length = 0 ∨ K.length = 1 by omega) with h0 | h1
    · exact (Go.Proofs.Any.sort_Slice_tiny Go.Proofs.Tryz.sl6 24 38 colsT colsE (by kernel_rfl) (by kernel_rfl) (by kernel_rfl) (by kernel_rfl) 25 (fun _ => by kernel_rfl) A K.length c (by omega) 55 (by rw [h0]; kernel_rfl) (.func 28) #[] #[.pointer (some ⟨O, 0, none⟩)] w).mono fin
    · exact (Go.Proofs.Any.sort_Slice_tiny Go.Proofs.Tryz.sl6 24 38 colsT colsE (by kernel_rfl) (by kernel_rfl) (by kernel_rfl) (by kernel_rfl) 25 (fun _ => by kernel_rfl) A K.length c (by omega) 56 (by rw [h1]; kernel_rfl) (.func 28) #[] #[.pointer (some ⟨O, 0, none⟩)] w).mono fin
end Go.Proofs.YtokooampmhcfeaaGreatDoor.Rg
