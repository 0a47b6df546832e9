/-
  sortKeyed by its contract, over the shelf's contract of slices.SortFunc (Derived/Shelf/SlSortCmp/WholeK.lean), at one key value or more. (By an AI agent.)
-/
import Derived.Test.YbulkykgSrt
import Derived.Test.YbulkykgShelf
namespace Go.Proofs.Ybulkykg.srt
open Go.RowKit Go.Shelf Go.Sort
set_option linter.unusedVariables false

/-- The element i: its key, and the pointer to its position. -/
def enc (m B : Nat) (K : Nat → Int) (i : Fin (m + 1)) : List Value := [.int .i64 (K i), .pointer (some ⟨B + 1 + i, 0, none⟩)]
/-- The order that sortKeyed's closure computes. -/
def cf (m : Nat) (K A : Nat → Int) (x y : Fin (m + 1)) : Int := cmp2 (K x) (A x) (K y) (A y)

theorem lt_iff (m : Nat) (K A : Nat → Int) (x y : Fin (m + 1)) : ltOf (cf m K A) x y = decide (K x < K y ∨ (K x = K y ∧ A x < A y)) := by
  unfold ltOf cf cmp2 cmpI
  by_cases h : K x = K y
  · by_cases a : A x < A y
    · simp [h, a]
    · by_cases b : A y < A x <;> simp [h, a, b]
  · by_cases a : K x < K y
    · simp [h, a]
    · have b : K y < K x := by omega
      simp [h, a, b]

theorem swo (m : Nat) (K A : Nat → Int) : SWO (ltOf (cf m K A)) :=
  ⟨fun x => by rw [lt_iff]; simp, fun x y z h1 h2 => by rw [lt_iff] at *; simp only [decide_eq_true_eq] at *; omega, fun x y z h1 h2 => by rw [lt_iff] at *; simp only [decide_eq_false_iff_not] at *; omega⟩

/-- The places in their order. -/
def places (m : Nat) : Array (Fin (m + 1)) := Array.ofFn id
theorem places_size (m : Nat) : (places m).size = m + 1 := by simp [places]
theorem places_get (m i : Nat) (h : i < m + 1) : ((places m)[i]! : Fin (m + 1)) = ⟨i, h⟩ := by
  rw [getElem!_pos (places m) i (by rw [places_size]; exact h)]
  simp [places]
theorem places_nodup (m : Nat) : (places m).toList.Nodup := by
  have e : ∀ t (h : t < (places m).toList.length), ((places m).toList[t]).val = t := fun t h => by
    rw [Array.getElem_toList]
    simp [places]
  refine List.pairwise_iff_getElem.2 fun i j hi hj hij he => ?_
  have := congrArg Fin.val he
  rw [e i hi, e j hj] at this
  omega
theorem extract_all {α : Type} (d : Array α) (n : Nat) (h : d.size = n) : d.extract 0 n = d := by
  subst h
  exact Array.extract_size

/-- What a permutation of the places is: each place within the length, no place twice. -/
theorem perm_inj (m : Nat) (d' : Array (Fin (m + 1))) (h : PermIn 0 (m + 1) (places m) d') (i j : Nat) (hi : i < m + 1) (hj : j < m + 1) (e : (d'[i]! : Fin (m + 1)).val = (d'[j]! : Fin (m + 1)).val) : i = j := by
  obtain ⟨hs, _, hp⟩ := h
  rw [places_size] at hs
  have e1 := extract_all d' (m + 1) hs
  have e2 := extract_all (places m) (m + 1) (places_size m)
  rw [e1, e2] at hp
  have hn : d'.toList.Nodup := hp.nodup_iff.2 (places_nodup m)
  have hne := List.pairwise_iff_getElem.1 hn
  rw [getElem!_pos d' i (by omega), getElem!_pos d' j (by omega)] at e
  rcases Nat.lt_trichotomy i j with hij | hij | hij
  · exact absurd (by rw [Array.getElem_toList, Array.getElem_toList]; exact Fin.ext e) (hne i j (by simp; omega) (by simp; omega) hij)
  · exact hij
  · exact absurd (by rw [Array.getElem_toList, Array.getElem_toList]; exact Fin.ext e.symm) (hne j i (by simp; omega) (by simp; omega) hij)

section
variable {m B : Nat} {K A : Nat → Int}

/-- Another block than the row's, in every world that the sort passes through. -/
theorem other_cell (w : World) (n : Nat) (d : Array (Fin (m + 1))) (os : Array Obj) (b o : Nat) (hb : b ≠ B) (hlt : b < w.heap.size) :
    (sortWorldK (enc m B K) 2 w B 0 n d os).cell? ⟨b, o, none⟩ = w.cell? ⟨b, o, none⟩ := by
  unfold sortWorldK
  rw [cell?_grow _ _ _ (by rw [size_putRowK]; exact hlt), cell?_putRowK_other _ _ _ B 0 d _ hb]
  rfl

theorem other_block (w : World) (n : Nat) (d : Array (Fin (m + 1))) (os : Array Obj) (b : Nat) (hb : b ≠ B) (hlt : b < w.heap.size) :
    (sortWorldK (enc m B K) 2 w B 0 n d os).heap[b]? = w.heap[b]? := by
  unfold sortWorldK
  rw [heap_grow_old _ _ (by rw [size_putRowK]; exact hlt)]
  unfold putRowK putRow mapBlock
  rw [Array.getElem?_modify, if_neg (Ne.symm hb)]
  rfl

theorem below_sort (w : World) (n : Nat) (d : Array (Fin (m + 1))) (os : Array Obj) (hB : B ≤ w.heap.size) : RowKit.Below B w (sortWorldK (enc m B K) 2 w B 0 n d os) :=
  ⟨rfl, rfl, rfl, size_sortWorldK_c _ _ _ _ _ _ _ _, fun k hk => other_block w n d os k (by omega) (by omega)⟩

/-- The row as the law's first loop leaves it. -/
theorem holds_laid {W wr : World} (h : Laid W (m + 1) K A (m + 1) wr) : HoldsK (enc m W.heap.size K) 2 wr W.heap.size 0 (places m) := by
  intro t ht
  have ht' : t < (places m).size * 2 := by simpa using ht
  rw [get_flatK _ _ _ t ht']
  rw [places_size] at ht'
  rw [places_get m (t / 2) (by omega)]
  obtain ⟨c0, c1, _, _, _⟩ := h.2.2.2.2 (t / 2) (by omega)
  refine ⟨?_, h.2.2.2.1 _⟩
  rcases Nat.mod_two_eq_zero_or_one t with e | e
  · rw [e, show 0 + t = t / 2 * 2 by omega, c0]
    rfl
  · rw [e, show 0 + t = t / 2 * 2 + 1 by omega, c1]
    rfl
end
end Go.Proofs.Ybulkykg.srt
