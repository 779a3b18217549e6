/- The graph while it is read: rows of arcs that grow. -/
import Derived.Test.YtdaccgelmcmfjaaGreatDoorM9
import Derived.Deep.CutRange
import Derived.Deep.Cut
import Derived.Deep.RegionLaw
set_option linter.all false
namespace Go.Proofs.YtdaccgelmcmfjaaGreatDoor
open Go.RowKit Go.V
structure Build (B0 : Nat) (w : World) (pb ob ib : Nat) (iv : Value) (ids : List Int) (rows : List Value) (L : List (List Arc)) : Prop where
  head : w.heap[pb]? = some (.cells #[iv, .slice (some ⟨ob, 0, none⟩) ids.length ids.length, .slice (some ⟨ib, 0, none⟩) ids.length ids.length] 159 (0, 0))
  ids_ : w.ownsRow B0 2 1 iv ids.length (ints ids)
  asc : ids.Pairwise (· < ·)
  small : ids.length ≤ 1000
  out : w.heap[ob]? = some (.cells (rows.take ids.length).toArray 212 (0, 0))
  in_ : w.heap[ib]? = some (.cells (rows.drop ids.length).toArray 212 (0, 0))
  len : rows.length = ids.length + ids.length
  lenL : L.length = ids.length + ids.length
  row : ∀ (j : Nat) (r : Value) (l : List Arc), rows[j]? = some r → L[j]? = some l → ArcRow w r l ∧ Asc l ∧ (∀ a ∈ l, a.1 < ids.length) ∧ ∀ g, r.ownBlock = some g → B0 ≤ g ∧ g ≠ pb ∧ g ≠ ob ∧ g ≠ ib ∧ iv.ownBlock ≠ some g
  apart : ∀ (j m : Nat) (r s : Value) (g : Nat), j ≠ m → rows[j]? = some r → rows[m]? = some s → r.ownBlock = some g → s.ownBlock ≠ some g
  ne : pb ≠ ob ∧ pb ≠ ib ∧ ob ≠ ib ∧ iv.ownBlock ≠ some pb ∧ iv.ownBlock ≠ some ob ∧ iv.ownBlock ≠ some ib
  low : B0 ≤ pb ∧ B0 ≤ ob ∧ B0 ≤ ib
theorem ownsRow_keep' {w w' : World} {b e s n : Nat} {v : Value} {xs : List Value} {S : Nat → Prop} (h : w.ownsRow b e s v n xs) (hk : Keep S w w') (hn : ∀ g, v.ownBlock = some g → ¬ S g) : w'.ownsRow b e s v n xs := by
  obtain ⟨h0, h1⟩ := h
  refine ⟨h0, ?_⟩
  rcases h1 with h1 | ⟨g, cap, cur, hv, hb, hh, h2⟩
  · exact .inl h1
  · exact .inr ⟨g, cap, cur, hv, hb, hk.get hh (hn g (by rw [hv]; rfl)), h2⟩
theorem Build.facts {B0 : Nat} {w : World} {pb ob ib : Nat} {iv : Value} {ids : List Int} {rows : List Value} {L : List (List Arc)} (h : Build B0 w pb ob ib iv ids rows L) {j : Nat} (hj : j < ids.length + ids.length) :
    ∃ r l, rows[j]? = some r ∧ L[j]? = some l ∧ ArcRow w r l ∧ Asc l ∧ (∀ a ∈ l, a.1 < ids.length) ∧ (∀ g, r.ownBlock = some g → g < w.heap.size) ∧
      ∀ W, Keep (fun g => r.ownBlock = some g) w W → W.cell? ⟨pb, 1, none⟩ = some (.slice (some ⟨ob, 0, none⟩) ids.length ids.length) ∧ W.cell? ⟨pb, 2, none⟩ = some (.slice (some ⟨ib, 0, none⟩) ids.length ids.length) ∧
        (j < ids.length → W.cell? ⟨ob, j, none⟩ = some r ∧ W.frozen? ⟨ob, j, none⟩ = false) ∧ (ids.length ≤ j → W.cell? ⟨ib, j - ids.length, none⟩ = some r ∧ W.frozen? ⟨ib, j - ids.length, none⟩ = false) := by
  obtain ⟨r, hr⟩ : ∃ r, rows[j]? = some r := ⟨_, List.getElem?_eq_getElem (by rw [h.len]; exact hj)⟩
  obtain ⟨l, hl⟩ : ∃ l, L[j]? = some l := ⟨_, List.getElem?_eq_getElem (by rw [h.lenL]; exact hj)⟩
  obtain ⟨a1, a2, a3, a4⟩ := h.row j _ _ hr hl
  refine ⟨_, _, hr, hl, a1, a2, a3, fun g hg => ?_, fun W hk => ?_⟩
  · rcases a1.form with ⟨e, _⟩ | ⟨g', cap, e, hlt, _⟩
    · rw [e] at hg; cases hg
    · rw [e] at hg; cases hg; exact hlt
  · have n1 : ¬ r.ownBlock = some pb := fun e => (a4 _ e).2.1 rfl
    have n2 : ¬ r.ownBlock = some ob := fun e => (a4 _ e).2.2.1 rfl
    have n3 : ¬ r.ownBlock = some ib := fun e => (a4 _ e).2.2.2.1 rfl
    have h1 := hk.get h.head n1
    have h2 := hk.get h.out n2
    have h3 := hk.get h.in_ n3
    refine ⟨by rw [cell_of h1]; rfl, by rw [cell_of h1]; rfl, fun hlt => ⟨?_, free_of h2 _⟩, fun hge => ⟨?_, free_of h3 _⟩⟩
    · rw [cell_of h2]; simp [List.getElem?_take, hlt, hr]
    · rw [cell_of h3]; simp [List.getElem?_drop, Nat.add_sub_cancel' hge, hr]
theorem Build.step {B0 : Nat} {w w1 w2 : World} {pb ob ib : Nat} {iv : Value} {ids : List Int} {rows : List Value} {L : List (List Arc)} (h : Build B0 w pb ob ib iv ids rows L) (hB0 : B0 ≤ w.heap.size) {j : Nat} (hj : j < ids.length + ids.length) {r v' : Value} {l l' : List Arc} {k : Nat}
    (hr : rows[j]? = some r) (hl : L[j]? = some l) (hrow : ArcRow w1 v' l') (hasc : Asc l') (hkey : ∀ x, x ∈ l'.map (·.1) ↔ x = k ∨ x ∈ l.map (·.1)) (hk : k < ids.length)
    (hkeep : Keep (fun g => r.ownBlock = some g) w w1) (hv : v'.ownBlock = r.ownBlock ∨ ∃ g, v'.ownBlock = some g ∧ w.heap.size ≤ g)
    (hw2 : w2 = if j < ids.length then w1.setCell ⟨ob, j, none⟩ v' else w1.setCell ⟨ib, j - ids.length, none⟩ v') :
    Build B0 w2 pb ob ib iv ids (rows.set j v') (L.set j l') ∧ Keep (fun g => B0 ≤ g) w w2 := by
  obtain ⟨a1, a2, a3, a4⟩ := h.row j _ _ hr hl
  have hlt : pb < w.heap.size ∧ ob < w.heap.size ∧ ib < w.heap.size := ⟨lt_of_get h.head, lt_of_get h.out, lt_of_get h.in_⟩
  have n1 : ¬ r.ownBlock = some pb := fun e => (a4 _ e).2.1 rfl
  have n2 : ¬ r.ownBlock = some ob := fun e => (a4 _ e).2.2.1 rfl
  have n3 : ¬ r.ownBlock = some ib := fun e => (a4 _ e).2.2.2.1 rfl
  have n4 : ∀ g, iv.ownBlock = some g → ¬ r.ownBlock = some g := fun g hg e => (a4 _ e).2.2.2.2 hg
  obtain ⟨e1, e2, e3, e4, e5, e6⟩ := h.ne
  -- the last store's block
  obtain ⟨sb, so, hw2', hsb⟩ : ∃ sb so, w2 = w1.setCell ⟨sb, so, none⟩ v' ∧ (sb = ob ∨ sb = ib) := by
    split at hw2
    · exact ⟨_, _, hw2, .inl rfl⟩
    · exact ⟨_, _, hw2, .inr rfl⟩
  have hk2 : Keep (fun g => r.ownBlock = some g ∨ g = sb) w w2 := by
    rw [hw2']; exact (hkeep.mono (fun _ _ h => .inl h)).setCell _ (fun _ => .inr rfl)
  have hsz : w2.heap.size = w1.heap.size := by rw [hw2']; simp
  have hvb : ∀ g, v'.ownBlock = some g → r.ownBlock = some g ∨ w.heap.size ≤ g := by
    intro g hg
    rcases hv with hv | ⟨g', hg', hh⟩
    · exact .inl (hv ▸ hg)
    · rw [hg] at hg'; cases hg'; exact .inr hh
  have hvne : ∀ g, v'.ownBlock = some g → B0 ≤ g ∧ g ≠ pb ∧ g ≠ ob ∧ g ≠ ib ∧ iv.ownBlock ≠ some g := by
    intro g hg
    rcases hvb g hg with h1 | h1
    · exact a4 g h1
    · refine ⟨by omega, by omega, by omega, by omega, fun e => ?_⟩
      obtain ⟨_, hrow⟩ := h.ids_
      rcases hrow with ⟨rfl, _⟩ | ⟨g', cap, cur, rfl, _, hh, _⟩
      · cases e
      · cases e; exact absurd h1 (Nat.not_le.2 (lt_of_get hh))
  have hnsb : ∀ g, v'.ownBlock = some g → g ≠ sb := by
    intro g hg e
    have := hvne g hg
    rcases hsb with rfl | rfl
    · exact this.2.2.1 e
    · exact this.2.2.2.1 e
  have hrow2 : ArcRow w2 v' l' := by
    refine hrow.keep (S := fun g => g = sb) (by rw [hw2']; exact (Keep.refl _ _).setCell _ (fun _ => rfl)) (fun g hg e => hnsb g hg e)
  have hnpb : ¬ (r.ownBlock = some pb ∨ pb = sb) := by
    rintro (h9 | h9)
    · exact n1 h9
    · rcases hsb with rfl | rfl
      · exact e1 h9
      · exact e2 h9
  have htake : (rows.set j v').take ids.length = if j < ids.length then (rows.take ids.length).set j v' else rows.take ids.length := by
    rw [List.take_set]
    split
    · rfl
    · rw [List.set_eq_of_length_le (by rw [List.length_take]; omega)]
  have hdrop : (rows.set j v').drop ids.length = if j < ids.length then rows.drop ids.length else (rows.drop ids.length).set (j - ids.length) v' := by
    rw [List.drop_set]
  refine ⟨⟨hk2.get h.head hnpb, ownsRow_keep' h.ids_ hk2 (fun g hg => ?_), h.asc, h.small, ?_, ?_, by rw [List.length_set]; exact h.len, by rw [List.length_set]; exact h.lenL, ?_, ?_, h.ne, h.low⟩, hk2.mono (fun g _ hg => ?_)⟩
  · rintro (h1 | h1)
    · exact n4 g hg h1
    · rcases hsb with rfl | rfl
      · exact e5 (h1 ▸ hg)
      · exact e6 (h1 ▸ hg)
  · rw [htake]
    have ho := hkeep.get h.out n2
    split
    · rename_i hlt'
      rw [hw2, if_pos hlt', heapV_setCell ho]; simp
    · rename_i hge
      rw [hw2, if_neg hge]
      exact ((Keep.refl (fun g => g = ib) w1).setCell (a := ⟨ib, j - ids.length, none⟩) v' (fun _ => rfl)).get ho (fun e => e3 e)
  · rw [hdrop]
    have ho := hkeep.get h.in_ n3
    split
    · rename_i hlt'
      rw [hw2, if_pos hlt']
      exact ((Keep.refl (fun g => g = ob) w1).setCell (a := ⟨ob, j, none⟩) v' (fun _ => rfl)).get ho (fun e => e3 e.symm)
    · rename_i hge
      rw [hw2, if_neg hge, heapV_setCell ho]; simp
  · intro m s x hs hx
    rw [List.getElem?_set] at hs hx
    by_cases hm : j = m
    · subst hm
      rw [if_pos rfl, if_pos (by rw [h.len]; exact hj)] at hs
      rw [if_pos rfl, if_pos (by rw [h.lenL]; exact hj)] at hx
      cases hs; cases hx
      refine ⟨hrow2, hasc, fun a ha => ?_, hvne⟩
      rcases (hkey a.1).1 (List.mem_map_of_mem ha) with h1 | h1
      · rw [h1]; exact hk
      · obtain ⟨a', ha', h1⟩ := List.mem_map.1 h1
        rw [← h1]; exact a3 a' ha'
    · rw [if_neg hm] at hs hx
      obtain ⟨b1, b2, b3, b4⟩ := h.row m s x hs hx
      refine ⟨b1.keep hk2 (fun g hg => ?_), b2, b3, b4⟩
      rintro (h1 | h1)
      · exact h.apart j m r s g hm hr hs h1 hg
      · have := b4 g hg
        rcases hsb with rfl | rfl
        · exact this.2.2.1 h1
        · exact this.2.2.2.1 h1
  · intro m1 m2 s1 s2 g hne h1 h2 hg1 hg2
    rw [List.getElem?_set] at h1 h2
    have hold : ∀ m s, j ≠ m → rows[m]? = some s → v'.ownBlock = some g → s.ownBlock = some g → False := by
      intro m s hm hs hv1 hs1
      rcases hvb g hv1 with h3 | h3
      · exact h.apart j m r s g hm hr hs h3 hs1
      · have hlm : L[m]? = some (L[m]'(by have := (List.getElem?_eq_some_iff.1 hs).1; rw [h.lenL, ← h.len]; exact this)) := List.getElem?_eq_getElem _
        rcases (h.row m s _ hs hlm).1.form with ⟨e, _⟩ | ⟨g', cap, e, hlt', _⟩
        · rw [e] at hs1; cases hs1
        · rw [e] at hs1; cases hs1; exact absurd h3 (Nat.not_le.2 hlt')
    by_cases hm1 : j = m1
    · subst hm1
      rw [if_pos rfl, if_pos (by rw [h.len]; exact hj)] at h1
      cases h1
      rw [if_neg hne] at h2
      exact hold m2 s2 hne h2 hg1 hg2
    · rw [if_neg hm1] at h1
      by_cases hm2 : j = m2
      · subst hm2
        rw [if_pos rfl, if_pos (by rw [h.len]; exact hj)] at h2
        cases h2
        exact hold m1 s1 hm1 h1 hg2 hg1
      · rw [if_neg hm2] at h2
        exact h.apart m1 m2 s1 s2 g hne h1 h2 hg1 hg2
  · rcases hg with hg | hg
    · exact (a4 g hg).1
    · rcases hsb with rfl | rfl
      · rw [hg]; exact h.low.2.1
      · rw [hg]; exact h.low.2.2
def keys (L : List (List Arc)) (j : Nat) : List Nat := (L.getD j []).map (·.1)
theorem Build.laid {B0 : Nat} {w0 w : World} {pb ob ib : Nat} {iv : Value} {ids : List Int} {rows : List Value} {L : List (List Arc)} (h : Build B0 w pb ob ib iv ids rows L) (h0 : Keep (fun g => B0 ≤ g) w0 w) (hB0 : B0 ≤ w0.heap.size) {j k : Nat} (hj : j < ids.length + ids.length) (hk : k < ids.length) (f : Nat) :
    ∃ r, w.cell? ⟨pb, 1, none⟩ = some (.slice (some ⟨ob, 0, none⟩) ids.length ids.length) ∧ w.cell? ⟨pb, 2, none⟩ = some (.slice (some ⟨ib, 0, none⟩) ids.length ids.length) ∧
      (j < ids.length → w.cell? ⟨ob, j, none⟩ = some r) ∧ (ids.length ≤ j → w.cell? ⟨ib, j - ids.length, none⟩ = some r) ∧
      ∀ W, W = w.drew → Calls Tryz.prog 121 #[r, .int .i64 (k : Int), .float .f64 f] W fun e w1 => ∃ v' va vn vc, v' = .slice va vn vc ∧ e = .returned v' ∧ w1.cell? ⟨pb, 1, none⟩ = some (.slice (some ⟨ob, 0, none⟩) ids.length ids.length) ∧ w1.cell? ⟨pb, 2, none⟩ = some (.slice (some ⟨ib, 0, none⟩) ids.length ids.length) ∧
        (j < ids.length → w1.cell? ⟨ob, j, none⟩ = some r ∧ w1.frozen? ⟨ob, j, none⟩ = false) ∧ (ids.length ≤ j → w1.cell? ⟨ib, j - ids.length, none⟩ = some r ∧ w1.frozen? ⟨ib, j - ids.length, none⟩ = false) ∧
        ∀ w2, w2 = (if j < ids.length then w1.setCell ⟨ob, j, none⟩ v' else w1.setCell ⟨ib, j - ids.length, none⟩ v') →
          ∃ rows' L', Build B0 w2 pb ob ib iv ids rows' L' ∧ Keep (fun g => B0 ≤ g) w0 w2 ∧ ∀ m x, x ∈ keys L' m ↔ x ∈ keys L m ∨ (m = j ∧ x = k) := by
  obtain ⟨r, l, hr, hl, a1, a2, a3, a4, a5⟩ := h.facts hj
  have hc := a5 w (Keep.refl _ _)
  refine ⟨r, hc.1, hc.2.1, fun hlt => (hc.2.2.1 hlt).1, fun hge => (hc.2.2.2 hge).1, fun W hW => ?_⟩
  have hsm := h.small
  have hll := asc_length a2 a3
  subst hW
  refine (set_spec (a1.keep ((Keep.refl (fun _ => False) w).drew) (fun _ _ h => h)) a2 k f (by omega) (fun p hp => by have := a3 p hp; omega) (by omega) (fun g hg => a4 g hg)).mono ?_
  rintro e w1 ⟨v', l', rfl, b1, b2, b3, b4, b5, b6⟩
  have hk1 : Keep (fun g => r.ownBlock = some g) w w1 := ⟨b5.os, b5.tape, b5.output, b5.size, b5.block⟩
  have hc1 := a5 w1 hk1
  have h1 : v'.oneCell' = true := by rcases b1.form with ⟨rfl, _⟩ | ⟨_, _, rfl, _⟩ <;> rfl
  have hva : ∃ va vn vc, v' = .slice va vn vc := by rcases b1.form with ⟨rfl, _⟩ | ⟨_, _, rfl, _⟩ <;> exact ⟨_, _, _, rfl⟩
  obtain ⟨va, vn, vc, rfl⟩ := hva
  refine ⟨_, va, vn, vc, rfl, rfl, hc1.1, hc1.2.1, fun hlt => ?_, fun hge => ?_, fun w2 hw2 => ?_⟩
  · exact hc1.2.2.1 hlt
  · exact hc1.2.2.2 hge
  · have hst := h.step (Nat.le_trans hB0 h0.size) hj hr hl b1 b2 b4 hk hk1 b6 hw2
    refine ⟨_, _, hst.1, h0.trans hst.2 (fun _ _ h => h), fun m x => ?_⟩
    have hlj : L.getD j [] = l := by rw [List.getD_eq_getElem?_getD, hl]; rfl
    unfold keys
    rw [List.getD_eq_getElem?_getD, List.getElem?_set]
    by_cases hm : j = m
    · subst hm
      rw [if_pos rfl, if_pos (by rw [h.lenL]; exact hj), hlj]
      simp only [Option.getD_some, true_and]
      rw [b4 x]
      constructor
      · rintro (h | h)
        · exact .inr h
        · exact .inl h
      · rintro (h | h)
        · exact .inr h
        · exact .inl h
    · rw [if_neg hm, ← List.getD_eq_getElem?_getD]
      constructor
      · exact .inl
      · rintro (h | ⟨h, _⟩)
        · exact h
        · exact absurd h.symm hm
set_option maxHeartbeats 4000000 in
set_option maxRecDepth 20000 in
theorem lay_spec {B0 : Nat} {w : World} {pb ob ib : Nat} {iv : Value} {ids : List Int} {rows : List Value} {L : List (List Arc)} (h : Build B0 w pb ob ib iv ids rows L) (hB0 : B0 ≤ w.heap.size) {i k : Nat} (hi : i < ids.length) (hk : k < ids.length) (f : Nat) (dir : Bool) :
    Calls Tryz.prog 74 #[pV pb, .int .i64 (i : Int), .int .i64 (k : Int), .float .f64 f, .bool dir] w fun e w' => e = .returned (.tuple #[]) ∧
      ∃ rows' L', Build B0 w' pb ob ib iv ids rows' L' ∧ Keep (fun g => B0 ≤ g) w w' ∧ ∀ m x, x ∈ keys L' m ↔ x ∈ keys L m ∨ (m = i ∧ x = k) ∨ (m = ids.length + k ∧ x = i) ∨ (dir = false ∧ ((m = k ∧ x = i) ∨ (m = ids.length + i ∧ x = k))) := by
  have hstep : ∀ wx, Keep (fun g => B0 ≤ g) w wx → ∀ rows L, Build B0 wx pb ob ib iv ids rows L → ∀ j k, j < ids.length + ids.length → k < ids.length → ∃ r, wx.cell? ⟨pb, 1, none⟩ = some (.slice (some ⟨ob, 0, none⟩) ids.length ids.length) ∧ wx.cell? ⟨pb, 2, none⟩ = some (.slice (some ⟨ib, 0, none⟩) ids.length ids.length) ∧
      (j < ids.length → wx.cell? ⟨ob, j, none⟩ = some r) ∧ (ids.length ≤ j → wx.cell? ⟨ib, j - ids.length, none⟩ = some r) ∧
      ∀ W, W = wx.drew → Calls Tryz.prog 121 #[r, .int .i64 (k : Int), .float .f64 f] W fun e w1 => ∃ v' va vn vc, v' = .slice va vn vc ∧ e = .returned v' ∧ w1.cell? ⟨pb, 1, none⟩ = some (.slice (some ⟨ob, 0, none⟩) ids.length ids.length) ∧ w1.cell? ⟨pb, 2, none⟩ = some (.slice (some ⟨ib, 0, none⟩) ids.length ids.length) ∧
        (j < ids.length → w1.cell? ⟨ob, j, none⟩ = some r ∧ w1.frozen? ⟨ob, j, none⟩ = false) ∧ (ids.length ≤ j → w1.cell? ⟨ib, j - ids.length, none⟩ = some r ∧ w1.frozen? ⟨ib, j - ids.length, none⟩ = false) ∧
        ∀ w2, w2 = (if j < ids.length then w1.setCell ⟨ob, j, none⟩ v' else w1.setCell ⟨ib, j - ids.length, none⟩ v') →
          ∃ rows' L', Build B0 w2 pb ob ib iv ids rows' L' ∧ Keep (fun g => B0 ≤ g) w w2 ∧ ∀ m x, x ∈ keys L' m ↔ x ∈ keys L m ∨ (m = j ∧ x = k) := fun wx hk0 rows L hb j k hj hk => hb.laid hk0 hB0 hj hk f
  have HS := Lib.hid hstep
  have HB := Lib.hid h
  generalize hn : ids.length = n at *
  clear hstep h hn
  have e1 : n ≤ n + i := by omega
  have e2 : n ≤ n + k := by omega
  have e3 : n + i - n = i := by omega
  have e4 : n + k - n = k := by omega
  have e5 : ¬ n + i < n := by omega
  have e6 : ¬ n + k < n := by omega
  have d1 : (0 : Int) ≤ (i : Int) := by omega
  have d2 : (i : Int) < (n : Int) := by omega
  have d3 : (0 : Int) ≤ (k : Int) := by omega
  have d4 : (k : Int) < (n : Int) := by omega
  go_enter Tryz.func74, Tryz.ntmps74
  obtain ⟨r0, c1, c2, c3, c4, hset⟩ := HS.out w (Keep.refl _ _) _ _ HB.out (i) k (by omega) (by omega)
  have cc := c3 hi
  have HSET := Lib.hid hset
  clear hset c3 c4
  go_upto_region 0 with fail
  go_cut [] from 10 to 25 (fun wx => ∃ rows' L', Build B0 wx pb ob ib iv ids rows' L' ∧ Keep (fun g => B0 ≤ g) w wx ∧ ∀ m x, x ∈ keys L' m ↔ x ∈ keys L m ∨ (m = i ∧ x = k))
  case first =>
    go_region_law ((go_simp; go_at_call 121; refine (HSET.out _ rfl).mono ?_; rintro e w1 ⟨_, va, vn, vc, rfl, rfl, f1, f2, f3, f4, f5⟩; have f31 := (f3 hi).1; have f32 := (f3 hi).2; clear f3 f4; have F5 := Lib.hid f5; clear f5))
    all_goals (go_wp2_with fail)
    all_goals go_meet
    all_goals
      obtain ⟨rows', L', q1, q2, q3⟩ := F5.out _ (if_pos hi).symm
      exact ⟨rows', L', q1, q2, q3⟩
  case rest =>
    obtain ⟨rows0, L0, hb0, hk0, hy⟩ := hcut
    clear HSET cc c1 c2
    have HY := Lib.hid hy
    clear hy
    obtain ⟨r1, c1, c2, c3, c4, hset⟩ := HS.out wc hk0 _ _ hb0 (n + k) i (by omega) (by omega)
    have cc := c4 e2
    rw [e4] at cc
    have HSET := Lib.hid hset
    clear hset c3 c4
    go_upto_region 1 with fail
    go_cut [] from 26 to 41 (fun wx => ∃ rows' L', Build B0 wx pb ob ib iv ids rows' L' ∧ Keep (fun g => B0 ≤ g) w wx ∧ ∀ m x, x ∈ keys L' m ↔ x ∈ keys L m ∨ (m = i ∧ x = k) ∨ (m = n + k ∧ x = i))
    case first =>
      go_region_law ((go_simp; go_at_call 121; refine (HSET.out _ rfl).mono ?_; rintro e w1 ⟨_, va, vn, vc, rfl, rfl, f1, f2, f3, f4, f5⟩; have f31 := (f4 e2).1; have f32 := (f4 e2).2; rw [e4] at f31 f32; clear f3 f4; have F5 := Lib.hid f5; clear f5))
      all_goals (go_wp2_with fail)
      all_goals go_meet
      all_goals
        obtain ⟨rows', L', q1, q2, q3⟩ := F5.out _ (by rw [if_neg e6, e4])
        exact ⟨rows', L', q1, q2, fun m x => (by rw [q3 m x, HY.out m x]; simp only [or_assoc])⟩
    case rest =>
      obtain ⟨rows1, L1, hb1, hk1, hy⟩ := hcut
      clear HSET cc c1 c2 HY
      have HY := Lib.hid hy
      clear hy
      cases dir
      · skip
        obtain ⟨r2, c1, c2, c3, c4, hset⟩ := HS.out wc hk1 _ _ hb1 (k) i (by omega) (by omega)
        have cc := c3 hk
        have HSET := Lib.hid hset
        clear hset c3 c4
        go_upto_region 3 with fail
        go_cut [] from 44 to 59 (fun wx => ∃ rows' L', Build B0 wx pb ob ib iv ids rows' L' ∧ Keep (fun g => B0 ≤ g) w wx ∧ ∀ m x, x ∈ keys L' m ↔ x ∈ keys L m ∨ (m = i ∧ x = k) ∨ (m = n + k ∧ x = i) ∨ (m = k ∧ x = i))
        case first =>
          go_region_law ((go_simp; go_at_call 121; refine (HSET.out _ rfl).mono ?_; rintro e w1 ⟨_, va, vn, vc, rfl, rfl, f1, f2, f3, f4, f5⟩; have f31 := (f3 hk).1; have f32 := (f3 hk).2; clear f3 f4; have F5 := Lib.hid f5; clear f5))
          all_goals (go_wp2_with fail)
          all_goals go_meet
          all_goals
            obtain ⟨rows', L', q1, q2, q3⟩ := F5.out _ (if_pos hk).symm
            exact ⟨rows', L', q1, q2, fun m x => (by rw [q3 m x, HY.out m x]; simp only [or_assoc])⟩
        case rest =>
          obtain ⟨rows2, L2, hb2, hk2, hy⟩ := hcut
          clear HSET cc c1 c2 HY
          have HY := Lib.hid hy
          clear hy
          obtain ⟨r3, c1, c2, c3, c4, hset⟩ := HS.out wc hk2 _ _ hb2 (n + i) k (by omega) (by omega)
          have cc := c4 e1
          rw [e3] at cc
          have HSET := Lib.hid hset
          clear hset c3 c4
          go_upto_region 4 with fail
          go_region_law ((go_simp; go_at_call 121; refine (HSET.out _ rfl).mono ?_; rintro e w1 ⟨_, va, vn, vc, rfl, rfl, f1, f2, f3, f4, f5⟩; have f31 := (f4 e1).1; have f32 := (f4 e1).2; rw [e3] at f31 f32; clear f3 f4; have F5 := Lib.hid f5; clear f5))
          all_goals (go_wp2_with fail)
          all_goals go_end0
          all_goals
            obtain ⟨rows', L', q1, q2, q3⟩ := F5.out _ (by rw [if_neg e5, e3])
            exact ⟨rfl, rows', L', q1, q2, fun m x => (by rw [q3 m x, HY.out m x]; simp [or_assoc])⟩
      · go_wp2_with fail
        go_end0
        exact ⟨rfl, rows1, L1, hb1, hk1, fun m x => by rw [HY.out m x]; simp⟩
end Go.Proofs.YtdaccgelmcmfjaaGreatDoor
