/- slices.Compact at []impl.Link: what is in order stays, each once. -/
import Derived.Test.YtdaccgelmcmfjaaGreatDoorJP2
import Derived.Lib.SliceRun
import Derived.BigRegion
set_option linter.all false
namespace Go.V
open Go.Proofs
theorem llt_of_le {x y z : Lnk} (h : llt x y ∨ x = y) (h' : llt y z) : llt x z := by
  rcases h with h | rfl
  · exact llt_trans h h'
  · exact h'
theorem le_at {l : List Lnk} (hs : l.Pairwise fun x y => llt x y ∨ x = y) {r : Nat} {y x : Lnk} (hy : l[r]? = some y) (hx : x ∈ l.take (r + 1)) : llt x y ∨ x = y := by
  obtain ⟨i, hi⟩ := List.mem_iff_getElem?.1 hx
  rw [List.getElem?_take] at hi
  split at hi
  · rename_i hir
    obtain ⟨h1, h2⟩ := List.getElem?_eq_some_iff.1 hi
    obtain ⟨h3, h4⟩ := List.getElem?_eq_some_iff.1 hy
    rcases Nat.lt_or_ge i r with h | h
    · have := List.pairwise_iff_getElem.1 hs i r h1 h3 h
      rwa [h2, h4] at this
    · obtain rfl : i = r := by omega
      right; rw [← h2, ← h4]
  · cases hi
theorem dedup_new {l D : List Lnk} (hs : l.Pairwise fun x y => llt x y ∨ x = y) (hD : D.Pairwise llt) {r : Nat} {x y : Lnk} (hy : l[r]? = some y) (hx : l[r + 1]? = some x) (hne : x ≠ y) (hm : ∀ z, z ∈ D ↔ z ∈ l.take (r + 1)) :
    (D ++ [x]).Pairwise llt ∧ ∀ z, z ∈ D ++ [x] ↔ z ∈ l.take (r + 1 + 1) := by
  have hyx : llt y x := by
    rcases le_at hs hx (x := y) (List.mem_take_iff_getElem.2 (by
      obtain ⟨h3, h4⟩ := List.getElem?_eq_some_iff.1 hy
      exact ⟨r, by omega, h4⟩)) with h | h
    · exact h
    · exact absurd h.symm hne
  refine ⟨?_, fun z => ?_⟩
  · rw [List.pairwise_append]
    refine ⟨hD, by simp, fun a ha b hb => ?_⟩
    have : b = x := by simpa using hb
    subst this
    exact llt_of_le (le_at hs hy ((hm a).1 ha)) hyx
  · rw [List.take_add_one (i := r + 1), hx, List.mem_append, List.mem_append, hm]
    simp
theorem dedup_same {l D : List Lnk} {r : Nat} {x : Lnk} (hy : l[r]? = some x) (hx : l[r + 1]? = some x) (hm : ∀ z, z ∈ D ↔ z ∈ l.take (r + 1)) : ∀ z, z ∈ D ↔ z ∈ l.take (r + 1 + 1) := fun z => by
  rw [List.take_add_one (i := r + 1), hx, List.mem_append, hm]
  constructor
  · exact .inl
  · rintro (h | h)
    · exact h
    · have : z = x := by simpa using h
      subst this
      obtain ⟨h3, h4⟩ := List.getElem?_eq_some_iff.1 hy
      exact List.mem_take_iff_getElem.2 ⟨r, by omega, h4⟩
end Go.V
namespace Go.Proofs.YtdaccgelmcmfjaaGreatDoor
open Go.RowKit Go.V Go.Sort Go.Lib
theorem eqLink (x y : Lnk) (w : World) : (binOp .eql 49 (.agg (linkA x).toArray) (.agg (linkA y).toArray)).run Tryz.prog w = .ok (.bool (decide (x = y))) w := by
  have h : decide (x = y) = (x.1.1 == y.1.1 && (x.1.2 == y.1.2 && (x.2.1 == y.2.1 && x.2.2 == y.2.2))) := by
    rw [Bool.eq_iff_iff]
    simp only [decide_eq_true_eq, Bool.and_eq_true, beq_iff_eq]
    constructor
    · rintro rfl; exact ⟨rfl, rfl, rfl, rfl⟩
    · rintro ⟨h1, h2, h3, h4⟩
      exact Prod.ext (Prod.ext h1 h2) (Prod.ext h3 h4)
  rw [h]
  go_simp
  by_cases h1 : x.1.1 = y.1.1 <;> by_cases h2 : x.1.2 = y.1.2 <;> by_cases h3 : x.2.1 = y.2.1 <;> by_cases h4 : x.2.2 = y.2.2 <;> simp [h1, h2, h3, h4]
theorem neLink (x y : Lnk) (w : World) : (binOp .neq 49 (.agg (linkA x).toArray) (.agg (linkA y).toArray)).run Tryz.prog w = .ok (.bool (!decide (x = y))) w := by
  have h : decide (x = y) = (x.1.1 == y.1.1 && (x.1.2 == y.1.2 && (x.2.1 == y.2.1 && x.2.2 == y.2.2))) := by
    rw [Bool.eq_iff_iff]
    simp only [decide_eq_true_eq, Bool.and_eq_true, beq_iff_eq]
    constructor
    · rintro rfl; exact ⟨rfl, rfl, rfl, rfl⟩
    · rintro ⟨h1, h2, h3, h4⟩
      exact Prod.ext (Prod.ext h1 h2) (Prod.ext h3 h4)
  rw [h]
  go_simp
  by_cases h1 : x.1.1 = y.1.1 <;> by_cases h2 : x.1.2 = y.1.2 <;> by_cases h3 : x.2.1 = y.2.1 <;> by_cases h4 : x.2.2 = y.2.2 <;> simp [h1, h2, h3, h4]
structure LRow (w : World) (g : Nat) (L : List Lnk) : Prop where
  lt : g < w.heap.size
  at_ : ∀ (j : Nat) (v : Value), (L.flatMap linkA)[j]? = some v → w.cell? ⟨g, j, none⟩ = some v ∧ w.frozen? ⟨g, j, none⟩ = false
theorem linkA_len (x : Lnk) : (linkA x).length = 4 := rfl
section
variable {w w' : World} {g : Nat} {L : List Lnk}
theorem LRow.keep {S : Nat → Prop} (h : LRow w g L) (hk : Keep S w w') (hn : ¬ S g) : LRow w' g L := ⟨Nat.lt_of_lt_of_le h.lt hk.size, fun j v hj => by
  obtain ⟨h1, h2⟩ := h.at_ j v hj
  exact ⟨by rw [hk.cell (a := ⟨g, j, none⟩) h.lt hn]; exact h1, by rw [hk.frozen (a := ⟨g, j, none⟩) h.lt hn]; exact h2⟩⟩
theorem LRow.cells (h : LRow w g L) {q o : Nat} {x : Lnk} (hq : L[q]? = some x) (ho : q * 4 = o) :
    (w.cell? ⟨g, o, none⟩ = some (.int .i64 x.1.1) ∧ w.cell? ⟨g, o + 1, none⟩ = some (.int .i64 x.1.2) ∧ w.cell? ⟨g, o + 2, none⟩ = some (.int .i64 x.2.1) ∧ w.cell? ⟨g, o + 3, none⟩ = some (.int .i64 x.2.2)) ∧
    (w.frozen? ⟨g, o, none⟩ = false ∧ w.frozen? ⟨g, o + 1, none⟩ = false ∧ w.frozen? ⟨g, o + 2, none⟩ = false ∧ w.frozen? ⟨g, o + 3, none⟩ = false) := by
  subst ho
  have f := fun c v hc hv => h.at_ (q * 4 + c) v ((flat_get linkA 4 linkA_len (by decide) L q c x hq hc).trans hv)
  have f0 := f 0 _ (by decide) rfl
  have f1 := f 1 _ (by decide) rfl
  have f2 := f 2 _ (by decide) rfl
  have f3 := f 3 _ (by decide) rfl
  exact ⟨⟨f0.1, f1.1, f2.1, f3.1⟩, f0.2, f1.2, f2.2, f3.2⟩
theorem LRow.set (h : LRow w g L) {q : Nat} (hq : q < L.length) (x : Lnk) :
    LRow ((((w.setCell ⟨g, q * 4, none⟩ (.int .i64 x.1.1)).setCell ⟨g, q * 4 + 1, none⟩ (.int .i64 x.1.2)).setCell ⟨g, q * 4 + 2, none⟩ (.int .i64 x.2.1)).setCell ⟨g, q * 4 + 3, none⟩ (.int .i64 x.2.2)) g (L.set q x) := by
  obtain ⟨⟨c0, c1, c2, c3⟩, _⟩ := h.cells (List.getElem?_eq_getElem hq) rfl
  refine ⟨by simpa using h.lt, fun j v hj => ?_⟩
  have hjl : j < (L.set q x).length * 4 := by rw [← flat_length linkA 4 linkA_len]; exact (List.getElem?_eq_some_iff.1 hj).1
  rw [List.length_set] at hjl
  have hd : j / 4 < L.length := by omega
  have hm : j % 4 < 4 := Nat.mod_lt _ (by decide)
  have he : j / 4 * 4 + j % 4 = j := by omega
  have hold : ∃ u, (L.flatMap linkA)[j]? = some u := ⟨_, List.getElem?_eq_getElem (by rw [flat_length linkA 4 linkA_len]; exact hjl)⟩
  obtain ⟨u, hu⟩ := hold
  obtain ⟨g1, g2⟩ := h.at_ j u hu
  by_cases e : j / 4 = q
  · have h1 : (L.set q x)[j / 4]? = some x := by rw [e, List.getElem?_set_self hq]
    have h2 := flat_get linkA 4 linkA_len (by decide) (L.set q x) (j / 4) (j % 4) x h1 hm
    rw [he, hj] at h2
    have h4 : j % 4 = 0 ∨ j % 4 = 1 ∨ j % 4 = 2 ∨ j % 4 = 3 := by omega
    refine ⟨?_, by simpa using g2⟩
    rcases h4 with h4 | h4 | h4 | h4
    · obtain rfl : j = q * 4 := by omega
      rw [h4] at h2; cases h2
      simp [World.cell?_setCell_other, World.cell?_setCell_same', c0]
    · obtain rfl : j = q * 4 + 1 := by omega
      rw [h4] at h2; cases h2
      simp [World.cell?_setCell_other, World.cell?_setCell_same', c1]
    · obtain rfl : j = q * 4 + 2 := by omega
      rw [h4] at h2; cases h2
      simp [World.cell?_setCell_other, World.cell?_setCell_same', c2]
    · obtain rfl : j = q * 4 + 3 := by omega
      rw [h4] at h2; cases h2
      simp [World.cell?_setCell_other, World.cell?_setCell_same', c3]
  · have h1 : (L.set q x)[j / 4]? = some L[j / 4] := by rw [List.getElem?_set_ne (fun h => e h.symm), List.getElem?_eq_getElem hd]
    have h2 := flat_get linkA 4 linkA_len (by decide) (L.set q x) (j / 4) (j % 4) _ h1 hm
    have h3 := flat_get linkA 4 linkA_len (by decide) L (j / 4) (j % 4) _ (List.getElem?_eq_getElem hd) hm
    rw [he] at h2 h3
    rw [h2, ← h3, hu] at hj
    cases hj
    refine ⟨?_, by simpa using g2⟩
    have n0 : (⟨g, j, none⟩ : Addr) ≠ ⟨g, q * 4, none⟩ := fun h => by injection h; omega
    have n1 : (⟨g, j, none⟩ : Addr) ≠ ⟨g, q * 4 + 1, none⟩ := fun h => by injection h; omega
    have n2 : (⟨g, j, none⟩ : Addr) ≠ ⟨g, q * 4 + 2, none⟩ := fun h => by injection h; omega
    have n3 : (⟨g, j, none⟩ : Addr) ≠ ⟨g, q * 4 + 3, none⟩ := fun h => by injection h; omega
    rw [World.cell?_setCell_other _ _ _ _ n3.symm, World.cell?_setCell_other _ _ _ _ n2.symm, World.cell?_setCell_other _ _ _ _ n1.symm, World.cell?_setCell_other _ _ _ _ n0.symm]
    exact g1
end
theorem keep_setCells (b : Nat) : ∀ (vs : List Value) (o : Nat) (w : World), Keep (fun x => x = b) w (w.setCells b o vs)
  | [], _, w => Keep.refl _ w
  | v :: vs, o, w => ((Keep.refl (fun x => x = b) w).setCell (a := ⟨b, o, none⟩) v (fun _ => rfl)).trans (keep_setCells b vs (o + 1) _) (fun _ _ h => h)
theorem clearLinks {w : World} {b n o : Nat} {L : List Lnk} (h : LRow w b L) (hfit : o + n = L.length) (hn : 0 < n) :
    ∃ W', (∀ (ty : TypeId) (c : Nat), (Builtin.clear_ #[29] ty #[.slice (some ⟨b, o * 4, none⟩) n c]).run Tryz.prog w = .ok (.tuple #[]) W') ∧ Keep (fun x => x = b) w W' ∧ LRow W' b (L.take o) := by
  obtain ⟨m, rfl⟩ : ∃ m, n = m + 1 := ⟨n - 1, by omega⟩
  have hz : ∀ w, (zeroValue 49).run Tryz.prog w = .ok (.agg #[.int .i64 0, .int .i64 0, .int .i64 0, .int .i64 0]) w := fun w => by kernel_rfl
  have hone : ∀ v ∈ (Builtin.zeroCells #[.int .i64 0, .int .i64 0, .int .i64 0, .int .i64 0] (m + 1)).toList, v.oneCell' = true := fun v hv => by
    unfold Builtin.zeroCells at hv
    simp only [Array.toList_map, List.mem_map] at hv
    obtain ⟨i, _, rfl⟩ := hv
    have h4 : i % 4 < 4 := Nat.mod_lt _ (by decide)
    have : i % 4 = 0 ∨ i % 4 = 1 ∨ i % 4 = 2 ∨ i % 4 = 3 := by omega
    show ((#[Value.int .i64 0, .int .i64 0, .int .i64 0, .int .i64 0] : Array Value)[i % 4]!).oneCell' = true
    rcases this with h | h | h | h <;> (rw [h]; rfl)
  have hlen : (Builtin.zeroCells #[.int .i64 0, .int .i64 0, .int .i64 0, .int .i64 0] (m + 1)).toList.length = (m + 1) * 4 := by simp [Builtin.zeroCells]
  generalize hvs : (Builtin.zeroCells #[.int .i64 0, .int .i64 0, .int .i64 0, .int .i64 0] (m + 1)).toList = vs at *
  have hex : ∀ j, j < L.length * 4 → ∃ v, w.cell? ⟨b, j, none⟩ = some v ∧ w.frozen? ⟨b, j, none⟩ = false := fun j hj => by
    have : j < (L.flatMap linkA).length := by rw [flat_length linkA 4 linkA_len]; exact hj
    exact ⟨_, h.at_ j _ (List.getElem?_eq_getElem this)⟩
  have hst := run_storeCells_cells (P := Tryz.prog) b (o * 4) vs 0 w (fun j hj => by
    obtain ⟨v, h1, _⟩ := hex (o * 4 + 0 + j) (by omega)
    rw [h1]; rfl) (fun j hj => (hex (o * 4 + 0 + j) (by omega)).choose_spec.2) hone
  simp only [Nat.add_zero] at hst
  refine ⟨w.setCells b (o * 4) vs, fun ty c => ?_, keep_setCells b vs _ w, by have := (keep_setCells b vs (o * 4) w).size; exact Nat.lt_of_lt_of_le h.lt this, fun j v hj => ?_⟩
  · simp [Builtin.clear_, run_underlying Tryz.underlying29, hz, Value.cells, hvs, hst]
  · have hjl : j < (L.take o).length * 4 := by rw [← flat_length linkA 4 linkA_len]; exact (List.getElem?_eq_some_iff.1 hj).1
    have hjo : j < o * 4 := by simp at hjl; omega
    have hold : (L.flatMap linkA)[j]? = some v := by
      have e : L = L.take o ++ L.drop o := (List.take_append_drop o L).symm
      rw [e, List.flatMap_append, List.getElem?_append_left (by rw [flat_length linkA 4 linkA_len]; exact hjl)]
      exact hj
    obtain ⟨h1, h2⟩ := h.at_ j v hold
    rw [World.cell?_setCells_out b vs (o * 4) w ⟨b, j, none⟩ (fun _ _ => .inl hjo)]
    exact ⟨h1, by rw [World.frozen?_setCells]; exact h2⟩
def CompPost (w : World) (g cap : Nat) (l : List Lnk) (e : Ending) (w' : World) : Prop :=
  ∃ (k : Nat) (L : List Lnk), e = .returned (.slice (some ⟨g, 0, none⟩) k cap) ∧ L.length = k ∧ LRow w' g L ∧ L.Pairwise llt ∧ (∀ x, x ∈ L ↔ x ∈ l) ∧ Keep (fun b => b = g) w w'
set_option maxHeartbeats 8000000 in
set_option maxRecDepth 20000 in
theorem compactLinks_spec {w : World} {g cap n : Nat} {l : List Lnk} (h : LRow w g l) (hn : l.length = n) (hcap : n ≤ cap) (hcm : cap ≤ maxLen) (hl : n ≤ 100000) (hs : l.Pairwise fun x y => llt x y ∨ x = y) :
    Calls Tryz.prog 26 #[.slice (some ⟨g, 0, none⟩) n cap] w (CompPost w g cap l) := by
  unfold CompPost
  have hex : ∀ k, k < n → ∃ x, l[k]? = some x := fun k hk => ⟨_, List.getElem?_eq_getElem (by omega)⟩
  have heq := eqLink
  have hneq := neLink
  have hcm' := hcm
  unfold maxLen at hcm'
  have H := Lib.hid h
  have HN := Lib.hid hn
  have HS := Lib.hid hs
  have HEX := Lib.hid hex
  clear h hn hs hex hcm
  by_cases h2 : n < 2
  · have hp : l.Pairwise llt := by
      have := HN.out
      match l, this with
      | [], _ => exact List.Pairwise.nil
      | [x], _ => exact List.pairwise_singleton _ _
      | x :: y :: l, this => simp at this; omega
    have HP := Lib.hid hp
    clear hp
    go_enter Tryz.func26, Tryz.ntmps26
    go_wp2_with fail
    go_ret
    exact ⟨n, l, rfl, HN.out, H.out, HP.out, fun _ => Iff.rfl, Keep.refl _ _⟩
  · go_enter Tryz.func26, Tryz.ntmps26
    go_wp2_with fail
    go_loopg [3] (n + 1) (fun gk q wr => ∃ z : Nat, q = .int .i64 ((z : Int) + 1) ∧ z + 1 + gk = n + 2 ∧ z + 1 ≤ n ∧ (l.take (z + 1)).Pairwise llt ∧ Keep (fun _ => False) w wr)
    case atStart => exact ⟨0, rfl, by omega, by omega, by (obtain ⟨x, hx⟩ := HEX.out 0 (by omega); rw [List.take_add_one, hx]; simp), Keep.refl _ _⟩
    case round =>
      obtain ⟨z, rfl, hgk, hzn, hp, hk⟩ := hrel
      have HGK := Lib.hid hgk
      have HP := Lib.hid hp
      have HK := Lib.hid hk
      clear hgk hp hk
      by_cases hlt : z + 1 < n
      · obtain ⟨y, hy⟩ := HEX.out z (by omega)
        obtain ⟨x, hx⟩ := HEX.out (z + 1) hlt
        have hr := H.out.keep HK.out (fun h => h)
        obtain ⟨⟨y0, y1, y2, y3⟩, _⟩ := hr.cells hy rfl
        obtain ⟨⟨x0, x1, x2, x3⟩, _⟩ := hr.cells hx rfl
        have HY := Lib.hid hy
        have HX := Lib.hid hx
        clear hy hx hr
        by_cases hxy : x = y
        · have d1 : decide (x = y) = true := by simpa using hxy
          have hk0 := HGK.out
          have hst : ∀ v, v ∈ l.take (z + 1) ↔ v ∈ l.take (z + 1 + 1) := dedup_same (by have := HY.out; rwa [← hxy] at this) HX.out (fun _ => Iff.rfl)
          have HST := Lib.hid hst
          have hlr : LRow wr g (l.take (z + 1) ++ l.drop (z + 1)) := by rw [List.take_append_drop]; exact H.out.keep HK.out (fun h => h)
          have HLR := Lib.hid hlr
          clear hst hlr hk0 hxy
          go_upto_region 6 with fail
          go_region
          all_goals (go_wp2_with fail)
          clear y0 y1 y2 y3 x0 x1 x2 x3
          generalize gk = gko at *
          go_loopg [3, 5] (n + 1) (fun gk q3 q5 wr => ∃ (kk r : Nat) (D : List Lnk), q3 = .int .i64 (kk : Int) ∧ q5 = .int .i64 ((r : Int) + 1) ∧ z + 1 + r + 1 + gk = n + 1 + (z + 2) ∧ z + 1 + r + 1 ≤ n ∧ 0 < kk ∧ kk ≤ z + 1 + r ∧ D.length = kk ∧ D.Pairwise llt ∧ (∀ v, v ∈ D ↔ v ∈ l.take (z + 1 + r + 1)) ∧ LRow wr g (D ++ l.drop kk) ∧ Keep (fun b => b = g) w wr)
          case atStart => exact ⟨z + 1, 0, l.take (z + 1), by go_num, rfl, by omega, by omega, by omega, by omega, by (rw [List.length_take, HN.out]; omega), HP.out, HST.out, HLR.out.keep ((Keep.refl (fun _ => False) wr).drew) (fun h => h), (HK.out.mono (fun _ _ h => h.elim)).drew⟩
          case round =>
            rename World => wi
            obtain ⟨kk, r, D, rfl, rfl, hgk, hrn, hk1, hkr, hdl, hdp, hdm, hlr, hkw⟩ := hrel
            clear HLR HST
            have HGK2 := Lib.hid hgk
            have HDL := Lib.hid hdl
            have HDP := Lib.hid hdp
            have HDM := Lib.hid hdm
            have HLR := Lib.hid hlr
            have HKW := Lib.hid hkw
            clear hgk hdl hdp hdm hlr hkw
            by_cases hlt2 : z + 1 + r + 1 < n
            · obtain ⟨y', hy⟩ := HEX.out (z + 1 + r) (by omega)
              obtain ⟨x', hx⟩ := HEX.out (z + 1 + r + 1) hlt2
              have hge : ∀ j, kk ≤ j → (D ++ l.drop kk)[j]? = l[j]? := fun j hj => by
                have hd := HDL.out
                rw [List.getElem?_append_right (by omega), List.getElem?_drop, hd]
                congr 1; omega
              have hcx := (HLR.out.cells ((hge (z + 1 + r + 1) (by omega)).trans hx) (o := (z + 1) * 4 + (r + 1) * 4) (by omega)).1
              have hcy := (HLR.out.cells ((hge (z + 1 + r) (by omega)).trans hy) (o := (z + 1) * 4 + r * 4) (by omega)).1
              obtain ⟨x0, x1, x2, x3⟩ := hcx
              obtain ⟨y0, y1, y2, y3⟩ := hcy
              have HX' := Lib.hid hx
              have HY' := Lib.hid hy
              have HGE := Lib.hid hge
              clear hx hy hge
              by_cases hxy : x' = y'
              · have d2 : decide (x' = y') = true := by simpa using hxy
                have hm2 := dedup_same (l := l) (D := D) (r := z + 1 + r) (x := x') (by have := HY'.out; rwa [← hxy] at this) HX'.out HDM.out
                have HM2 := Lib.hid hm2
                clear hxy hm2
                go_upto_region 11 with fail
                go_region
                all_goals (go_wp2_with fail)
                all_goals
                  go_roundg (gk - 1)
                  case measure => have := HGK2.out; omega
                  case rel => exact ⟨kk, r + 1, D, rfl, by go_num, by have := HGK2.out; omega, by omega, hk1, by omega, HDL.out, HDP.out, HM2.out, HLR.out.keep ((Keep.refl (fun _ => False) wi).drew) (fun h => h), HKW.out.drew⟩
              · have d2 : decide (x' = y') = false := by simpa using hxy
                obtain ⟨hp2, hm2⟩ := dedup_new HS.out HDP.out HY'.out HX'.out hxy HDM.out
                have hlen : (D ++ l.drop kk).length = n := by rw [List.length_append, List.length_drop, HDL.out, HN.out]; omega
                obtain ⟨o, ho⟩ : ∃ o, (D ++ l.drop kk)[kk]? = some o := ⟨_, List.getElem?_eq_getElem (by omega)⟩
                obtain ⟨⟨o0, o1, o2, o3⟩, f0, f1, f2, f3⟩ := HLR.out.cells ho rfl
                have hset := HLR.out.set (q := kk) (by omega) x'
                have hl2 : (D ++ l.drop kk).set kk x' = (D ++ [x']) ++ l.drop (kk + 1) := by
                  have hd := HDL.out
                  obtain ⟨u, hu⟩ : ∃ u, l[kk]? = some u := HEX.out kk (by omega)
                  obtain ⟨h1, h2⟩ := List.getElem?_eq_some_iff.1 hu
                  rw [List.set_append_right _ _ (by omega), hd, Nat.sub_self, List.drop_eq_getElem_cons h1, List.set_cons_zero, List.append_assoc]
                  rfl
                rw [hl2] at hset
                have HP2 := Lib.hid hp2
                have HM2 := Lib.hid hm2
                have HSET := Lib.hid hset
                clear hxy hp2 hm2 hset hl2 ho hlen
                go_upto_region 11 with fail
                go_region
                all_goals (go_wp2_with fail)
                have hks : Keep (fun b => b = g) wi (((((wi.setCell ⟨g, kk * 4, none⟩ (.int .i64 x'.1.1)).setCell ⟨g, kk * 4 + 1, none⟩ (.int .i64 x'.1.2)).setCell ⟨g, kk * 4 + 2, none⟩ (.int .i64 x'.2.1)).setCell ⟨g, kk * 4 + 3, none⟩ (.int .i64 x'.2.2))).drew :=
                  ((((Keep.refl (fun b => b = g) wi).setCell (a := ⟨g, kk * 4, none⟩) _ (fun _ => rfl)).setCell (a := ⟨g, kk * 4 + 1, none⟩) _ (fun _ => rfl)).setCell (a := ⟨g, kk * 4 + 2, none⟩) _ (fun _ => rfl)).setCell (a := ⟨g, kk * 4 + 3, none⟩) _ (fun _ => rfl) |>.drew
                have HKS := Lib.hid hks
                clear hks
                all_goals
                  go_roundg (gk - 1)
                  case measure => have := HGK2.out; omega
                  case rel => exact ⟨kk + 1, r + 1, D ++ [x'], by go_num, by go_num, by have := HGK2.out; omega, by omega, by omega, by omega, by (rw [List.length_append, HDL.out]; rfl), HP2.out, HM2.out, HSET.out.keep ((Keep.refl (fun _ => False) _).drew) (fun h => h), HKW.out.trans HKS.out (fun _ _ h => h)⟩
            · have hrn' : z + 1 + r + 1 = n := by omega
              have hlen : (D ++ l.drop kk).length = n := by rw [List.length_append, List.length_drop, HDL.out, HN.out]; omega
              obtain ⟨W', hclr, hkc, hlc⟩ := clearLinks (n := n - kk) (o := kk) HLR.out (by omega) (by omega)
              have htk : (D ++ l.drop kk).take kk = D := by
                have hd := HDL.out
                rw [← hd, List.take_left']; rfl
              rw [htk] at hlc
              have hmm : ∀ v, v ∈ D ↔ v ∈ l := fun v => by
                have := HDM.out v
                rwa [hrn', ← HN.out, List.take_length] at this
              have HKC := Lib.hid hkc
              have HLC := Lib.hid hlc
              have HMM := Lib.hid hmm
              clear hrn' hlen hkc hlc htk hmm
              go_wp2_with fail
              go_ret
              exact ⟨kk, D, rfl, HDL.out, HLC.out, HDP.out, HMM.out, HKW.out.trans HKC.out (fun _ _ h => h)⟩
        · have d1 : decide (x = y) = false := by simpa using hxy
          have hp2 := (dedup_new HS.out HP.out HY.out HX.out hxy (fun _ => Iff.rfl)).1
          have hp3 : (l.take (z + 1 + 1)).Pairwise llt := by rw [List.take_add_one (i := z + 1), HX.out]; exact hp2
          have HP3 := Lib.hid hp3
          clear hp2 hp3 hxy
          go_upto_region 6 with fail
          go_region
          all_goals (go_wp2_with fail)
          all_goals
            go_roundg (gk - 1)
            case measure => have := HGK.out; omega
            case rel => exact ⟨z + 1, by go_num, by have := HGK.out; omega, by omega, HP3.out, HK.out.drew⟩
      · have hzn' : z + 1 = n := by omega
        have hp2 : l.Pairwise llt := by have := HP.out; rwa [hzn', ← HN.out, List.take_length] at this
        have HP2 := Lib.hid hp2
        clear hp2
        go_wp2_with fail
        go_ret
        exact ⟨n, l, rfl, HN.out, H.out.keep HK.out (fun h => h), HP2.out, fun _ => Iff.rfl, HK.out.mono (fun _ _ h => h.elim)⟩
end Go.Proofs.YtdaccgelmcmfjaaGreatDoor
