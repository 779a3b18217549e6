/- slices.Sort, Clone and Compact at []int64: what they leave of rows that are owned. -/
import Derived.Test.YtdaccgelmcmfjaaGreatDoorM10
import Derived.Test.YtdaccgelmcmfjaaGreatDoorSH
import Derived.Sort.OwnSortedInts
import Derived.Test.YtdaccgelmcmfjaaGreatDoorJE0
set_option linter.all false
section
namespace Go.Proofs.YtdaccgelmcmfjaaGreatDoor
open Go.RowKit Go.V Go.Sort
theorem keep_grownBy {w w' : World} {row : Option Nat} (h : w.grownBy w' row) : Keep (fun b => row = some b) w w' := (Keep.refl _ _).grown h (fun _ h _ => h)
def isort (xs : List Int) : List Int := xs.mergeSort (fun x y => decide (x ≤ y))
theorem isort_length (xs : List Int) : (isort xs).length = xs.length := List.length_mergeSort _
theorem isort_perm (xs : List Int) : (isort xs).Perm xs := List.mergeSort_perm _ _
theorem isort_sorted (xs : List Int) : (isort xs).Pairwise (· ≤ ·) := by
  have := List.pairwise_mergeSort (le := fun (x y : Int) => decide (x ≤ y)) (fun a b c h1 h2 => by simp at *; omega) (fun a b => by simp; omega) xs
  exact this.imp (by simp)
theorem isort_strict {xs : List Int} (h : xs.Nodup) : (isort xs).Pairwise (· < ·) := by
  have h1 := isort_sorted xs
  have h2 : (isort xs).Nodup := (isort_perm xs).nodup_iff.2 h
  exact (h1.and h2).imp (fun {a b} ⟨h, h'⟩ => by omega)
theorem sort64_spec {w : World} {B n : Nat} {v : Value} {xs : List Int} (h : w.ownsRow B 2 1 v n (ints xs)) (hsz : n ≤ 1000000) :
    Calls Tryz.prog 70 #[v] w fun e w' => e = .returned (.tuple #[]) ∧ w'.ownsRow B 2 1 v n (ints (isort xs)) ∧ Keep (fun b => v.ownBlock = some b) w w' := by
  obtain ⟨hl, hr⟩ := h
  rw [ints_length, Nat.mul_one] at hl
  rcases hr with ⟨rfl, rfl⟩ | ⟨g, cap, cur, rfl, hb, hh, h1, h2, h3, h4⟩
  · refine (Tryz.slices_Sort_int_none_f70 none 0 w).mono ?_
    rintro e w' ⟨rfl, rfl⟩
    have : xs = [] := List.length_eq_zero_iff.1 hl
    subst this
    exact ⟨rfl, ⟨by simp [isort, ints], .inl ⟨rfl, rfl⟩⟩, Keep.refl _ _⟩
  · subst hl
    rw [Nat.mul_one] at h4
    have hz := Tryz.slices_Sort_int_f70 g 0 cap xs w (holds_of_blockI hh h4) (lt_of_get hh) (by omega)
    refine hz.mono ?_
    rintro e w' ⟨rfl, q, os, rfl⟩
    refine ⟨rfl, ?_, keep_grownBy (grownBy_sortedI _)⟩
    exact ownsRow_sortedI (ss := xs) (ts := isort xs) (isort_length xs) hb hh h1 h2 h3
theorem clone64_spec {w : World} {B n : Nat} {v : Value} {xs : List Int} (h : w.ownsRow B 2 1 v n (ints xs)) (hsz : n ≤ 1000000) :
    Calls Tryz.prog 72 #[v] w fun e w' => ∃ v', e = .returned v' ∧ w'.ownsRow w.heap.size 2 1 v' n (ints xs) ∧ Keep (fun _ => False) w w' := by
  obtain ⟨hl, hr⟩ := h
  rw [ints_length, Nat.mul_one] at hl
  rcases hr with ⟨rfl, rfl⟩ | ⟨g, cap, cur, rfl, hb, hh, h1, h2, h3, h4⟩
  · refine (Tryz.slices_Clone_int_nil_f72 0 0 w).mono ?_
    rintro e w' ⟨rfl, rfl⟩
    have : xs = [] := List.length_eq_zero_iff.1 hl
    subst this
    exact ⟨_, rfl, ⟨rfl, .inl ⟨rfl, rfl⟩⟩, Keep.refl _ _⟩
  · subst hl
    rw [Nat.mul_one] at h4
    refine (Tryz.slices_Clone_int_f72 g 0 xs.length cap xs w (Nat.le_refl _) (by omega) (fun j hj => ?_)).mono ?_
    · rw [Nat.zero_add, cell_of hh]
      have : (cur.toList.take xs.length)[j]? = (ints xs)[j]? := by rw [h4]
      rw [List.getElem?_take, if_pos hj] at this
      rw [← Array.getElem?_toList, this, List.getD_eq_getElem?_getD, List.getElem?_eq_getElem hj]
      simp [ints, hj]
    · rintro e w' ⟨v', rfl, q1, _, q2⟩
      rw [List.take_length] at q1
      exact ⟨v', rfl, q1, keep_of_below q2⟩
theorem compact_iff (xs : List Int) (hs : xs.Pairwise (· ≤ ·)) : (Lib.compact xs).length = xs.length ↔ xs.Nodup := by
  have hk : (Lib.compact xs).length = ((List.range xs.length).filter (Lib.keeps xs.toArray)).length := by
    unfold Lib.compact Lib.compactUpTo; rw [List.length_map]
  have h1 : (Lib.compact xs).length = xs.length ↔ ∀ j, j < xs.length → Lib.keeps xs.toArray j = true := by
    rw [hk]
    constructor
    · intro h j hj
      have := List.length_filter_eq_length_iff.1 (h.trans (List.length_range (n := xs.length)).symm)
      exact this j (List.mem_range.2 hj)
    · intro h
      rw [List.filter_eq_self.2 (fun j hj => h j (List.mem_range.1 hj)), List.length_range]
  rw [h1]
  have hg : ∀ j (hj : j < xs.length), xs.toArray[j]! = xs[j] := fun j hj => by simp [hj]
  constructor
  · intro h
    have hlt : xs.Pairwise (· < ·) := by
      rw [List.pairwise_iff_getElem] at hs ⊢
      have hstep : ∀ d i (h1 : i < xs.length) (h2 : i + d + 1 < xs.length), xs[i] < xs[i + d + 1] := by
        intro d
        induction d with
        | zero =>
          intro i hi hj
          have hk := h (i + 1) hj
          have hle := hs i (i + 1) hi hj (by omega)
          unfold Lib.keeps at hk
          rw [Nat.add_sub_cancel, hg _ hj, hg _ hi] at hk
          simp at hk
          simp only [Nat.add_zero]
          omega
        | succ d ih =>
          intro i hi hj
          have a := ih i hi (by omega)
          have b := hs (i + d + 1) (i + (d + 1) + 1) (by omega) hj (by omega)
          omega
      intro i j hi hj hij
      have := hstep (j - i - 1) i hi (by omega)
      simpa [show i + (j - i - 1) + 1 = j by omega] using this
    exact hlt.imp (fun {a b} h => by omega)
  · intro h j hj
    unfold Lib.keeps
    rcases Nat.eq_zero_or_pos j with rfl | hp
    · simp
    · have := List.pairwise_iff_getElem.1 h (j - 1) j (by omega) hj (by omega)
      rw [hg _ hj, hg (j - 1) (by omega)]
      simp only [decide_eq_true_eq]
      exact .inr (fun e => this e.symm)
theorem compact64_spec {w : World} {B n : Nat} {v : Value} {xs : List Int} (h : w.ownsRow B 2 1 v n (ints xs)) (hsz : n ≤ 1000000) :
    Calls Tryz.prog 71 #[v] w fun e w' => ∃ a cap, e = .returned (.slice a (Lib.compact xs).length cap) ∧ Keep (fun b => v.ownBlock = some b) w w' := by
  obtain ⟨hl, hr⟩ := h
  rw [ints_length, Nat.mul_one] at hl
  rcases hr with ⟨rfl, rfl⟩ | ⟨g, cap, cur, rfl, hb, hh, h1, h2, h3, h4⟩
  · refine (Tryz.slices_Compact_int_empty none 0 w).mono ?_
    rintro e w' ⟨rfl, rfl⟩
    have : xs = [] := List.length_eq_zero_iff.1 hl
    subst this
    exact ⟨_, _, rfl, Keep.refl _ _⟩
  · subst hl
    rw [Nat.mul_one] at h4
    refine (Tryz.slices_Compact_int g 0 cap xs w (holds_of_blockI hh h4) (by omega) h1).mono ?_
    rintro e w' ⟨rfl, q, rfl⟩
    refine ⟨_, _, rfl, ?_⟩
    have := keep_grownBy (grownBy_sortedI (w := w) (g := g) (n := q) (os := #[]) (Lib.compact xs ++ List.replicate (xs.length - (Lib.compact xs).length) 0).toArray)
    rwa [grow_empty] at this
end Go.Proofs.YtdaccgelmcmfjaaGreatDoor
end
/- What a sort leaves of the rest of the memory. -/
section
namespace Go.Proofs.YtdaccgelmcmfjaaGreatDoor
open Go.RowKit Go.V Go.Sort Go.Lib
theorem keep_sortWorld {α : Type} [Inhabited α] (enc : α → Value) (w : World) (blk off n : Nat) (d : Array α) (os : Array Obj) : Keep (fun b => b = blk) w (sortWorld enc w blk off n d os) := by
  have : w.grownBy (sortWorld enc w blk off n d os) (some blk) := by
    unfold sortWorld
    refine ⟨rfl, rfl, rfl, by simp, fun k hk hne => ?_⟩
    rw [heap_grow_old _ _ (by simpa using hk)]
    have : blk ≠ k := fun e => hne (by rw [e])
    simp [putRow, mapBlock, Sort.ahead, Array.getElem?_modify, this]
  exact (keep_grownBy this).mono (fun b _ h => by cases h; rfl)
theorem keep_sortWorldK {α : Type} [Inhabited α] (enc : α → List Value) (k : Nat) (w : World) (blk off n : Nat) (d : Array α) (os : Array Obj) : Keep (fun b => b = blk) w (sortWorldK enc k w blk off n d os) := by
  have : w.grownBy (sortWorldK enc k w blk off n d os) (some blk) := by
    unfold sortWorldK putRowK
    refine ⟨rfl, rfl, rfl, by simp, fun k hk hne => ?_⟩
    rw [heap_grow_old _ _ (by simpa using hk)]
    have : blk ≠ k := fun e => hne (by rw [e])
    simp [putRow, mapBlock, Sort.ahead, Array.getElem?_modify, this]
  exact (keep_grownBy this).mono (fun b _ h => by cases h; rfl)
end Go.Proofs.YtdaccgelmcmfjaaGreatDoor
end
