/- The statement's own small functions over lists of numbers: index, has, rising. -/
import Derived.Test.YtdaccgelmcmfjaaGreatDoorM9
import Derived.Test.YtdaccgelmcmfjaaGreatDoorJV0
import Derived.Test.YtdaccgelmcmfjaaGreatDoorM12
import Derived.Test.YtdaccgelmcmfjaaGreatDoorSH
import Derived.Test.YtdaccgelmcmfjaaGreatDoorJQ20
set_option linter.all false
section
namespace Go.Proofs.YtdaccgelmcmfjaaGreatDoor
open Go.RowKit Go.V
def lidx (xs : List Int) (k : Int) : Int := match xs.findIdx? (· == k) with | some j => (j : Int) | none => -1
theorem lidx_found {xs : List Int} {k : Int} {j : Nat} (h1 : xs[j]? = some k) (h2 : ∀ t p, t < j → xs[t]? = some p → p ≠ k) : lidx xs k = (j : Int) := by
  unfold lidx
  have : xs.findIdx? (· == k) = some j := by
    rw [List.findIdx?_eq_some_iff_getElem]
    obtain ⟨hl, he⟩ := List.getElem?_eq_some_iff.1 h1
    exact ⟨hl, by simp [he], fun t ht => by simpa using h2 t _ ht (List.getElem?_eq_getElem (by omega))⟩
  rw [this]
theorem lidx_none {xs : List Int} {k : Int} (h : ∀ t p, t < xs.length → xs[t]? = some p → p ≠ k) : lidx xs k = -1 := by
  unfold lidx
  have : xs.findIdx? (· == k) = none := by
    rw [List.findIdx?_eq_none_iff]
    intro p hp
    obtain ⟨t, ht⟩ := List.mem_iff_getElem?.1 hp
    simpa using h t p (List.getElem?_eq_some_iff.1 ht).1 ht
  rw [this]
theorem lidx_has (xs : List Int) (k : Int) : decide (0 ≤ lidx xs k) = xs.contains k := by
  unfold lidx
  cases h : xs.findIdx? (· == k) with
  | some j =>
    have := (List.findIdx?_eq_some_iff_getElem.1 h)
    obtain ⟨hl, he, _⟩ := this
    have : k ∈ xs := by have e : xs[j] = k := by simpa using he
                        rw [← e]; exact List.getElem_mem hl
    simp [this]
  | none =>
    have : k ∉ xs := fun hk => by have := List.findIdx?_eq_none_iff.1 h k hk; simp at this
    simp [this]
theorem row_cases {B : Nat} {w : World} {v : Value} {xs : List Int} (h : Row B w v (ints xs)) :
    ∃ a cap, v = .slice a xs.length cap ∧ ∀ k, k < xs.length → ∃ b off p, a = some ⟨b, off, none⟩ ∧ xs[k]? = some p ∧ ∀ W, Keep (fun _ => False) w W → W.cell? ⟨b, off + k, none⟩ = some (.int .i64 p) := by
  rcases h with ⟨rfl, hu⟩ | ⟨b, off, cap, rfl, hB, hc, hl, hm⟩
  · have : xs = [] := by simpa [ints] using hu
    subst this
    exact ⟨none, 0, rfl, fun k hk => by cases hk⟩
  · rw [ints_length]
    refine ⟨_, cap, rfl, fun k hk => ⟨b, off, _, rfl, List.getElem?_eq_getElem hk, fun W hk' => ?_⟩⟩
    have := hc k _ (ints_get (List.getElem?_eq_getElem hk))
    rw [hk'.cell (a := ⟨b, off + k, none⟩) (World.block_lt_of_cell? _ _ this) (fun h => h)]; exact this
set_option maxRecDepth 20000 in
theorem lindex_spec {B : Nat} {w : World} {v : Value} {xs : List Int} (h : Row B w v (ints xs)) (k : Int) (hlen : xs.length ≤ 1073741824) :
    Calls Tryz.prog 69 #[v, .int .i64 k] w fun e w' => e = .returned (.int .i64 (lidx xs k)) ∧ w' = w := by
  obtain ⟨a, cap, rfl, hc⟩ := row_cases h
  have hf := fun j => @lidx_found xs k j
  have hnn := @lidx_none xs k
  generalize hn : xs.length = n at *
  have HC := Lib.hid hc
  have HF := Lib.hid hf
  have HNN := Lib.hid hnn
  clear hc hf hnn h hn
  go_enter Tryz.func69, Tryz.ntmps69
  go_wp2_with fail
  go_loop [5] (fun i => ∃ j : Nat, i = .int .i64 (j : Int) ∧ j ≤ n ∧ ∀ t p, t < j → xs[t]? = some p → p ≠ k) (fun i => n - (intOf i).toNat)
  case atStart => exact ⟨0, rfl, Nat.zero_le _, fun t p ht _ => absurd ht (Nat.not_lt_zero _)⟩
  case round =>
    obtain ⟨j, rfl, hj, hq⟩ := hrel
    have HQ := Lib.hid hq
    clear hq
    by_cases hlt : j < n
    · obtain ⟨b, off, p, rfl, hp, hcc⟩ := HC.out j hlt
      have c0 := hcc w (Keep.refl _ _)
      have HP := Lib.hid hp
      clear hcc hp
      by_cases hpk : p = k
      · subst hpk
        go_wp2_with fail
        go_ret
        exact ⟨by rw [HF.out _ HP.out HQ.out]; rfl, rfl⟩
      · have d1 : (p == k) = false := by simpa using hpk
        go_wp2_with fail
        go_round
        case rel => exact ⟨j + 1, by go_num, by omega, fun t r ht hr => by
          rcases Nat.lt_or_ge t j with h | h
          · exact HQ.out t r h hr
          · obtain rfl : t = j := by omega
            rw [HP.out] at hr; cases hr; exact hpk⟩
        case measure => simp [intOf]; omega
    · obtain rfl : j = n := by omega
      go_wp2_with fail
      go_ret
      exact ⟨by rw [HNN.out HQ.out]; rfl, rfl⟩
theorem has_spec {B : Nat} {w : World} {v : Value} {xs : List Int} (h : Row B w v (ints xs)) (k : Int) (hlen : xs.length ≤ 1073741824) :
    Calls Tryz.prog 39 #[v, .int .i64 k] w fun e w' => e = .returned (.bool (xs.contains k)) ∧ w' = w := by
  have hx := lidx_has xs k
  have HX := Lib.hid hx
  clear hx
  go_enter Tryz.func39, Tryz.ntmps39
  go_wp2_with (first | (((with_reducible refine (lindex_spec h k hlen).mono ?_); rintro e w1 ⟨rfl, rfl⟩)))
  go_ret
  exact ⟨by rw [HX.out]; rfl, rfl⟩
set_option maxRecDepth 20000 in
theorem rising_spec {B : Nat} {w : World} {v : Value} {t : List Int} (h : Row B w v (ints t)) (hlen : t.length ≤ 1073741824) :
    Calls Tryz.prog 37 #[v] w fun e w' => ∃ b : Bool, e = .returned (.bool b) ∧ (b = true → RiseTo t t.length) ∧ Keep (fun _ => False) w w' := by
  obtain ⟨a, cap, rfl, hc⟩ := row_cases h
  generalize hn : t.length = n at *
  have HC := Lib.hid hc
  have HN := Lib.hid hn
  clear hc h hn
  go_enter Tryz.func37, Tryz.ntmps37
  go_wp2_with fail
  go_loopw [3] (fun i wr => ∃ j : Nat, i = .int .i64 (j : Int) ∧ 1 ≤ j ∧ (j ≤ n ∨ j = 1) ∧ RiseTo t j ∧ Keep (fun _ => False) w wr) (fun i _ => n - (intOf i).toNat)
  case atStart => exact ⟨1, rfl, Nat.le_refl _, .inr rfl, fun j x y h1 h2 _ _ => by omega, Keep.refl _ _⟩
  case round =>
    obtain ⟨j, rfl, h1, h2, hr, hk⟩ := hrel
    have HR := Lib.hid hr
    have HK := Lib.hid hk
    clear hr hk
    by_cases hlt : j < n
    · obtain ⟨b, off, p, rfl, hp, hcc⟩ := HC.out j hlt
      obtain ⟨b', off', q, hbb, hq, hcc'⟩ := HC.out (j - 1) (by omega)
      cases hbb
      have c0 := hcc wr HK.out
      have c1 := hcc' wr HK.out
      have HP := Lib.hid hp
      have HQ := Lib.hid hq
      clear hcc hcc' hp hq
      have e1 : ((j : Int) - 1).toNat = j - 1 := by omega
      go_wp2_with fail
      go_quiet (fail)
      all_goals (go_wp2_with fail)
      · go_ret
        exact ⟨false, rfl, fun h => (by cases h), HK.out.drewN _⟩
      · go_roundw
        case rel =>
          refine ⟨j + 1, by go_num, by omega, .inl (by omega), fun i x y h1 h2 hx hy => ?_, HK.out.drewN _⟩
          by_cases hij : i < j
          · exact HR.out i x y h1 hij hx hy
          · obtain rfl : i = j := by omega
            rw [HQ.out] at hx
            rw [HP.out] at hy
            cases hx; cases hy
            assumption
        case measure => simp [intOf]; omega
    · have hjn : RiseTo t n := by
        rcases h2 with h2 | h2
        · obtain rfl : j = n := by omega
          exact HR.out
        · exact fun i x y h1 h2 _ _ => by omega
      have HJ := Lib.hid hjn
      clear hjn
      go_wp2_with fail
      go_ret
      exact ⟨true, rfl, fun _ => HJ.out, HK.out⟩
end Go.Proofs.YtdaccgelmcmfjaaGreatDoor
end
/- laws.sorted: what it hands back are the same numbers. -/
section
namespace Go.Proofs.YtdaccgelmcmfjaaGreatDoor
open Go.RowKit Go.V
structure IR (w : World) (g : Nat) (t : List Int) : Prop where
  lt : g < w.heap.size
  at_ : ∀ (j : Nat) (x : Int), t[j]? = some x → w.cell? ⟨g, j, none⟩ = some (.int .i64 x) ∧ w.frozen? ⟨g, j, none⟩ = false
theorem IR.keep {S : Nat → Prop} {w w' : World} {g : Nat} {t : List Int} (h : IR w g t) (hk : Keep S w w') (hn : ¬ S g) : IR w' g t := ⟨Nat.lt_of_lt_of_le h.lt hk.size, fun j x hj => by
  obtain ⟨h1, h2⟩ := h.at_ j x hj
  exact ⟨by rw [hk.cell (a := ⟨g, j, none⟩) h.lt hn]; exact h1, by rw [hk.frozen (a := ⟨g, j, none⟩) h.lt hn]; exact h2⟩⟩
theorem IR.set {w : World} {g : Nat} {t : List Int} (h : IR w g t) (i : Nat) (y : Int) : IR (w.setCell ⟨g, i, none⟩ (.int .i64 y)) g (t.set i y) := by
  refine ⟨by simpa using h.lt, fun j x hj => ?_⟩
  rw [List.getElem?_set] at hj
  by_cases e : i = j
  · subst e
    rw [if_pos rfl] at hj
    split at hj
    · rename_i hlt
      obtain ⟨h1, h2⟩ := h.at_ i _ (List.getElem?_eq_getElem hlt)
      cases hj
      exact ⟨World.cell?_setCell_same _ _ _ h1, by rw [World.frozen?_setCell]; exact h2⟩
    · cases hj
  · rw [if_neg e] at hj
    obtain ⟨h1, h2⟩ := h.at_ j x hj
    exact ⟨by rw [World.cell?_setCell_other _ _ _ _ (by intro e'; cases e'; exact e rfl)]; exact h1, by rw [World.frozen?_setCell]; exact h2⟩
theorem IR.row {w : World} {g n cap : Nat} {t : List Int} (h : IR w g t) (hn : t.length = n) (h1 : n ≤ cap) (h2 : cap ≤ maxLen) : Row w.heap.size w (.slice (some ⟨g, 0, none⟩) n cap) (ints t) :=
  .inr ⟨g, 0, cap, by rw [ints_length, hn], h.lt, fun j u hu => by
    unfold ints at hu
    rw [List.getElem?_map] at hu
    cases hx : t[j]? with
    | none => rw [hx] at hu; cases hu
    | some x =>
      rw [hx] at hu; cases hu
      rw [Nat.zero_add]; exact (h.at_ j x hx).1, by rw [ints_length, hn]; exact h1, h2⟩
theorem cloneRow_spec {B : Nat} {w : World} {v : Value} {xs : List Int} (h : Row B w v (ints xs)) (hlen : xs.length ≤ 1000000) :
    Calls Tryz.prog 68 #[v] w fun e w' => ∃ v', e = .returned v' ∧ w'.ownsRow w.heap.size 3 1 v' xs.length (ints xs) ∧ Keep (fun _ => False) w w' := by
  rcases h with ⟨rfl, hu⟩ | ⟨b, off, cap, rfl, hB, hc, hl, hm⟩
  · have : xs = [] := by simpa [ints] using hu
    subst this
    refine (Tryz.slices_Clone_int_nil 0 0 w).mono ?_
    rintro e w' ⟨rfl, rfl⟩
    exact ⟨_, rfl, ⟨rfl, .inl ⟨rfl, rfl⟩⟩, Keep.refl _ _⟩
  · rw [ints_length] at *
    refine (Tryz.slices_Clone_int b off xs.length cap xs w (Nat.le_refl _) (by omega) (fun j hj => ?_)).mono ?_
    · have := hc j _ (ints_get (List.getElem?_eq_getElem hj))
      rw [List.getD_eq_getElem?_getD, List.getElem?_eq_getElem hj]; exact this
    · rintro e w' ⟨v', rfl, q1, _, q2⟩
      rw [List.take_length] at q1
      exact ⟨v', rfl, q1, keep_of_below q2⟩
theorem owns_ir {B n : Nat} {w : World} {v : Value} {xs : List Int} (h : w.ownsRow B 3 1 v n (ints xs)) (hn : xs.length = n) : ∃ a cap, v = .slice a n cap ∧ ((a = none ∧ n = 0 ∧ cap = 0) ∨ ∃ g, a = some ⟨g, 0, none⟩ ∧ B ≤ g ∧ IR w g xs ∧ n ≤ cap ∧ cap ≤ maxLen) := by
  obtain ⟨hl, ⟨rfl, rfl⟩ | ⟨g, cap, cur, rfl, hb, hh, h1, h2, h3, h4⟩⟩ := h
  · exact ⟨none, 0, rfl, .inl ⟨rfl, rfl, rfl⟩⟩
  · rw [Nat.mul_one] at h4
    refine ⟨_, cap, rfl, .inr ⟨g, rfl, hb, ⟨lt_of_get hh, fun j x hj => ?_⟩, h1, h2⟩⟩
    have hu := ints_get hj
    rw [← h4, List.getElem?_take] at hu
    refine ⟨?_, free_of hh j⟩
    rw [cell_of hh]
    split at hu
    · simpa using hu
    · cases hu
set_option maxHeartbeats 4000000 in
set_option maxRecDepth 20000 in
theorem sorted_spec {B : Nat} {w : World} {v : Value} {xs : List Int} (h : Row B w v (ints xs)) (hlen : xs.length ≤ 1000) :
    Calls Tryz.prog 38 #[v] w fun e w' => ∃ v' t, e = .returned v' ∧ t.Perm xs ∧ Row w'.heap.size w' v' (ints t) ∧ Keep (fun _ => False) w w' := by
  have hcl := cloneRow_spec h (by omega)
  have HCL := Lib.hid hcl
  clear hcl h
  go_enter Tryz.func38, Tryz.ntmps38
  go_wp2_with (first
    | (((with_reducible refine (HCL.out).mono ?_); rintro e w1 ⟨v1, rfl, hr1, hk1⟩); obtain ⟨a1, cap, rfl, ha1⟩ := owns_ir hr1 rfl; have HA := Lib.hid ha1; have HR1 := Lib.hid hr1; have HK1 := Lib.hid hk1; clear ha1 hr1 hk1))
  generalize hn : xs.length = n at *
  have HN := Lib.hid hn
  clear hn
  go_loopw [4] (fun q wr => ∃ (k : Nat) (t : List Int), q = .int .i64 (k : Int) ∧ 1 ≤ k ∧ t.Perm xs ∧ (∀ g, a1 = some ⟨g, 0, none⟩ → IR wr g t) ∧ Keep (fun b => w.heap.size ≤ b) w1 wr) (fun q _ => n - (intOf q).toNat)
  case atStart =>
    refine ⟨1, xs, rfl, Nat.le_refl _, List.Perm.refl _, fun g hg => ?_, Keep.refl _ _⟩
    rcases HA.out with ⟨rfl, _⟩ | ⟨g', rfl, _, h, _⟩
    · cases hg
    · cases hg; exact h
  case round =>
    rename World => wr
    obtain ⟨k, t, rfl, h1, hp, hi, hk⟩ := hrel
    have HP := Lib.hid hp
    have HI := Lib.hid hi
    have HK := Lib.hid hk
    clear hp hi hk
    by_cases hlt : k < n
    · obtain ⟨g, rfl, hgw, _, hcap⟩ : ∃ g, a1 = some ⟨g, 0, none⟩ ∧ w.heap.size ≤ g ∧ n ≤ cap ∧ cap ≤ maxLen := by
        rcases HA.out with ⟨_, h0, _⟩ | ⟨g', h2, h3, _, h4⟩
        · omega
        · exact ⟨g', h2, h3, h4⟩
      have hir := HI.out g rfl
      have HIR := Lib.hid hir
      clear hir
      go_wp2_with fail
      go_loopw [5] (fun q wi => ∃ (i : Nat) (t' : List Int), q = .int .i64 (i : Int) ∧ i ≤ k ∧ t'.Perm xs ∧ IR wi g t' ∧ Keep (fun b => w.heap.size ≤ b) w1 wi) (fun q _ => (intOf q).toNat)
      case atStart => exact ⟨k, t, rfl, Nat.le_refl _, HP.out, HIR.out, HK.out⟩
      case round =>
        rename World => wi
        obtain ⟨i, t', rfl, hik, hp, hi, hk⟩ := hrel
        have hl' : t'.length = n := by rw [hp.length_eq]; exact HN.out
        have HP' := Lib.hid hp
        have HI' := Lib.hid hi
        have HK' := Lib.hid hk
        clear hp hi hk
        by_cases hi0 : 0 < i
        · obtain ⟨x, hx⟩ : ∃ x, t'[i]? = some x := ⟨_, List.getElem?_eq_getElem (by omega)⟩
          obtain ⟨y, hy⟩ : ∃ y, t'[i - 1]? = some y := ⟨_, List.getElem?_eq_getElem (by omega)⟩
          obtain ⟨c0, f0⟩ := HI'.out.at_ i x hx
          obtain ⟨c1, f1⟩ := HI'.out.at_ (i - 1) y hy
          have HX := Lib.hid hx
          have HY := Lib.hid hy
          clear hx hy hl'
          have e1 : ((i : Int) - 1).toNat = i - 1 := by omega
          have hsw : ∀ W, Keep (fun _ => False) wi W → IR ((W.setCell ⟨g, i, none⟩ (.int .i64 y)).setCell ⟨g, i - 1, none⟩ (.int .i64 x)) g (swapAt t' i x y) ∧ Keep (fun b => w.heap.size ≤ b) w1 ((W.setCell ⟨g, i, none⟩ (.int .i64 y)).setCell ⟨g, i - 1, none⟩ (.int .i64 x)) := fun W hk => by
            refine ⟨?_, ?_⟩
            · unfold swapAt
              exact ((HI'.out.keep hk (fun h => h)).set i y).set (i - 1) x
            · exact ((HK'.out.trans hk (fun _ _ h => h.elim)).setCell (a := ⟨g, i, none⟩) _ (fun _ => hgw)).setCell (a := ⟨g, i - 1, none⟩) _ (fun _ => hgw)
          have hsp := swapAt_perm t' i x y hi0 HX.out HY.out
          have hm1 : ((i - 1 : Nat) : Int) = (i : Int) - 1 := by omega
          have HSW := Lib.hid hsw
          have HSP := Lib.hid hsp
          have HM1 := Lib.hid hm1
          clear hsw hsp hm1
          by_cases hxy : x < y
          · go_wp2_with fail
            go_quiet (fail)
            all_goals (go_wp2_with fail)
            go_region
            all_goals go_wp2_with fail
            all_goals go_roundw
            all_goals first
              | (case rel => exact ⟨i - 1, swapAt t' i x y, by rw [HM1.out], by omega, HSP.out.trans HP'.out, (HSW.out _ (by repeat first | exact Keep.refl _ _ | assumption | apply Keep.alloc | apply Keep.drewN | apply Keep.drew | (refine Keep.setCell ?_ _ (fun h => absurd h (Nat.lt_irrefl _))))).1, (HSW.out _ (by repeat first | exact Keep.refl _ _ | assumption | apply Keep.alloc | apply Keep.drewN | apply Keep.drew | (refine Keep.setCell ?_ _ (fun h => absurd h (Nat.lt_irrefl _))))).2⟩)
              | (case measure => simp [intOf]; omega)
          · have hxy' : (decide (x < y)) = false := by simpa using hxy
            go_wp2_with fail
            go_quiet (fail)
            all_goals (go_wp2_with fail)
            all_goals go_roundw
            all_goals first
              | (case rel => exact ⟨k + 1, t', by go_num, by omega, HP'.out, fun g' hg' => (by cases hg'; exact HI'.out.keep ((Keep.refl (fun _ => False) wi).drewN _) (fun h => h)), HK'.out.drewN _⟩)
              | (case measure => simp [intOf]; omega)
        · obtain rfl : i = 0 := by omega
          go_wp2_with fail
          go_quiet (fail)
          all_goals (go_wp2_with fail)
          all_goals go_roundw
          all_goals first
            | (case rel => exact ⟨k + 1, t', by go_num, by omega, HP'.out, fun g' hg' => (by cases hg'; exact HI'.out.keep ((Keep.refl (fun _ => False) wi).drewN _) (fun h => h)), HK'.out.drewN _⟩)
            | (case measure => simp [intOf]; omega)
    · have hfin : Row wr.heap.size wr (.slice a1 n cap) (ints t) := by
        have hl : t.length = n := by rw [HP.out.length_eq]; exact HN.out
        rcases HA.out with ⟨rfl, rfl, rfl⟩ | ⟨g, rfl, _, _, h2, h3⟩
        · exact .inl ⟨rfl, by rw [List.length_eq_zero_iff.1 hl]; rfl⟩
        · exact (HI.out g rfl).row hl h2 h3
      have hkf : Keep (fun _ => False) w wr := HK1.out.trans HK.out (fun b hb h => by have : w.heap.size ≤ b := h; omega)
      have HFIN := Lib.hid hfin
      have HKF := Lib.hid hkf
      clear hfin hkf
      go_wp2_with fail
      go_ret
      exact ⟨_, t, rfl, HP.out, HFIN.out, HKF.out⟩
end Go.Proofs.YtdaccgelmcmfjaaGreatDoor
end
/- laws.zzFits1, laws.well, laws.few, laws.pairs: what a graph that they let in is. -/
section
namespace Go.Proofs.YtdaccgelmcmfjaaGreatDoor
open Go.RowKit Go.V
set_option maxHeartbeats 4000000 in
set_option maxRecDepth 20000 in
theorem zzFits_spec {B : Nat} {w : World} {gv : Value} {g : IG} (h : GraphAt B w gv g) :
    Calls Tryz.prog 4 #[gv] w fun e w' => ∃ b : Bool, e = .returned (.bool b) ∧ Keep (fun _ => False) w w' := by
  obtain ⟨na, nn, nc, ea, en, ec, rfl⟩ := graph_form h
  clear h
  go_enter Tryz.func4, Tryz.ntmps4
  go_wp2_with fail
  all_goals go_ret
  all_goals exact ⟨_, rfl, (Keep.refl _ w).alloc _⟩
def Tells (w : World) (X : Prop) (e : Ending) (w' : World) : Prop := ∃ b : Bool, e = .returned (.bool b) ∧ (b = true → X) ∧ Keep (fun _ => False) w w'
theorem rise_nodup' {t l : List Int} (h : RiseTo t t.length) (hp : t.Perm l) : l.Nodup := by
  refine hp.nodup_iff.1 ?_
  have hlt : ∀ d i x y, t[i]? = some x → t[i + d + 1]? = some y → x < y := by
    intro d
    induction d with
    | zero => exact fun i x y hx hy => h (i + 1) x y (by omega) (List.getElem?_eq_some_iff.1 hy).1 hx hy
    | succ d ih =>
      intro i x y hx hy
      have hl := (List.getElem?_eq_some_iff.1 hy).1
      have h1 : t[i + d + 1]? = some t[i + d + 1] := List.getElem?_eq_getElem (by omega)
      exact Int.lt_trans (ih i x _ hx h1) (h (i + d + 1 + 1) _ y (by omega) hl h1 hy)
  rw [List.Nodup, List.pairwise_iff_getElem]
  intro i j hi hj hij e
  have := hlt (j - i - 1) i _ _ (List.getElem?_eq_getElem hi) (by rw [show i + (j - i - 1) + 1 = j by omega]; exact List.getElem?_eq_getElem hj)
  omega
theorem graph_lens {B : Nat} {w : World} {gv : Value} {g : IG} (h : GraphAt B w gv g) : ∃ na nc ea ec, gv = .agg #[.bool g.dir, .slice na g.nodes.length nc, .slice ea g.edges.length ec] ∧ Row B w (.slice na g.nodes.length nc) (ints g.nodes) ∧ Row3 B w (.slice ea g.edges.length ec) g.edges := by
  obtain ⟨nv, ev, rfl, h1, h2⟩ := h
  have k1 : ∃ na nc, nv = .slice na g.nodes.length nc := by
    rcases h1 with ⟨rfl, hu⟩ | ⟨b, off, cap, rfl, _⟩
    · have : g.nodes = [] := by simpa [ints] using hu
      rw [this]; exact ⟨_, _, rfl⟩
    · rw [ints_length]; exact ⟨_, _, rfl⟩
  have k2 : ∃ ea ec, ev = .slice ea g.edges.length ec := by
    rcases h2 with ⟨rfl, hu⟩ | ⟨b, off, cap, rfl, _⟩
    · rw [hu]; exact ⟨_, _, rfl⟩
    · exact ⟨_, _, rfl⟩
  obtain ⟨na, nc, rfl⟩ := k1
  obtain ⟨ea, ec, rfl⟩ := k2
  exact ⟨na, nc, ea, ec, rfl, h1, h2⟩
theorem row3_at {B : Nat} {w : World} {a : Option Addr} {n c k : Nat} {es : List (Int × Int × Int)} (h : Row3 B w (.slice a n c) es) (hk : k < es.length) : ∃ b off e, a = some ⟨b, off, none⟩ ∧ es[k]? = some e ∧ ∀ W, Keep (fun _ => False) w W → W.cell? ⟨b, off + k * 3, none⟩ = some (.int .i64 e.1) ∧ W.cell? ⟨b, off + k * 3 + 1, none⟩ = some (.int .i64 e.2.1) ∧ W.cell? ⟨b, off + k * 3 + 2, none⟩ = some (.int .i64 e.2.2) := by
  rcases h with ⟨he, hu⟩ | ⟨b, off, cap, he, hB, hc, hl, hm⟩
  · rw [hu] at hk; cases hk
  · cases he
    refine ⟨b, off, es[k], rfl, List.getElem?_eq_getElem hk, fun W hk' => ?_⟩
    obtain ⟨h1, h2, h3⟩ := edgeCells_get es k _ (List.getElem?_eq_getElem hk)
    have := hc.keep hk' (fun h => h)
    exact ⟨this _ _ h1, by rw [Nat.add_assoc]; exact this _ _ h2, by rw [Nat.add_assoc]; exact this _ _ h3⟩
theorem boxG {w : World} {d : Bool} {x y : Value} {b : Nat} (h : w.heap[b]? = some (.cells #[.bool d, x, y] 25 (0, 0))) (W : World) (hk : Keep (fun _ => False) w W) : W.cell? ⟨b, 0, none⟩ = some (.bool d) ∧ W.cell? ⟨b, 1, none⟩ = some x ∧ W.cell? ⟨b, 2, none⟩ = some y := by
  have h' := hk.get h (fun h => h)
  exact ⟨by rw [cell_of h']; rfl, by rw [cell_of h']; rfl, by rw [cell_of h']; rfl⟩
theorem boxE {w : World} {x y z : Value} {b : Nat} (h : w.heap[b]? = some (.cells #[x, y, z] 51 (0, 0))) (W : World) (hk : Keep (fun _ => False) w W) : W.cell? ⟨b, 0, none⟩ = some x ∧ W.cell? ⟨b, 1, none⟩ = some y ∧ W.cell? ⟨b, 2, none⟩ = some z := by
  have h' := hk.get h (fun h => h)
  exact ⟨by rw [cell_of h']; rfl, by rw [cell_of h']; rfl, by rw [cell_of h']; rfl⟩
theorem take_ok {ns : List Int} {es : List (Int × Int × Int)} {k : Nat} {e : Int × Int × Int} (h : ∀ x ∈ es.take k, edgeOk ns x) (he : es[k]? = some e) (ho : edgeOk ns e) : ∀ x ∈ es.take (k + 1), edgeOk ns x := fun x hx => by
  rw [List.take_add_one, he] at hx
  rcases List.mem_append.1 hx with hx | hx
  · exact h x hx
  · simp at hx; rw [hx]; exact ho
set_option maxHeartbeats 8000000 in
set_option maxRecDepth 20000 in
theorem well_spec {B : Nat} {w : World} {gv : Value} {g : IG} (h : GraphAt B w gv g) (hn : g.nodes.length ≤ 1000) (he : g.edges.length ≤ 1000000) :
    Calls Tryz.prog 19 #[gv] w (Tells w g.Good) := by
  obtain ⟨na, nc, ea, ec, rfl, h1, h2⟩ := graph_lens h
  have hs := fun W (hk : Keep (fun _ => False) w W) => sorted_spec (h1.keep hk (fun _ h => h.elim)) hn
  have hhas := fun W (hk : Keep (fun _ => False) w W) x => has_spec (h1.keep hk (fun _ h => h.elim)) x (by omega)
  have hri := fun W v (t : List Int) (hr : Row W.heap.size W v (ints t)) (hp : t.Perm g.nodes) => rising_spec hr (by rw [hp.length_eq]; omega)
  have hrow := fun k (hk : k < g.edges.length) => row3_at h2 hk
  have hnd := fun (t : List Int) (hp : t.Perm g.nodes) (hr : RiseTo t t.length) => rise_nodup' hr hp
  have hgood := fun (hnd : g.nodes.Nodup) (hes : ∀ e ∈ g.edges, edgeOk g.nodes e) => IG.Good.mk (g := g) hnd hes
  have hcc := fun W => boxG (heap_new w (.cells #[.bool g.dir, .slice na g.nodes.length nc, .slice ea g.edges.length ec] 25 (0, 0))) W
  have hk0 : Keep (fun _ => False) w (w.alloc (.cells #[.bool g.dir, .slice na g.nodes.length nc, .slice ea g.edges.length ec] 25 (0, 0))) := (Keep.refl _ w).alloc _
  clear h h1 h2
  generalize IG.Good g = GG at *
  obtain ⟨dir, nodes, edges⟩ := g
  dsimp only at *
  generalize hnn : nodes.length = n at *
  generalize hee : edges.length = m at *
  have HS := Lib.hid hs
  have HHAS := Lib.hid hhas
  have HRI := Lib.hid hri
  have HROW := Lib.hid hrow
  have HND := Lib.hid hnd
  have HGOOD := Lib.hid hgood
  have HCC := Lib.hid hcc
  have HK0 := Lib.hid hk0
  have HEE := Lib.hid hee
  clear hs hhas hri hrow hnd hgood hcc hk0 hnn hee
  go_enter Tryz.func19, Tryz.ntmps19
  go_wp2_with (first
    | (((with_reducible refine (HS.out _ HK0.out).mono ?_); rintro e w1 ⟨v1, t, rfl, hp, hr, hk1⟩); have HRIS := Lib.hid (HRI.out w1 v1 t hr hp); have HK1 := Lib.hid hk1; have HP := Lib.hid hp; clear hp hr hk1)
    | (((with_reducible refine (HRIS.out).mono ?_); rintro e w2 ⟨bb, rfl, hbb, hk2⟩); have HB := Lib.hid hbb; obtain ⟨c0, c1, c2⟩ := HCC.out w2 (HK1.out.trans hk2 (fun _ _ h => h)); have HK2 := Lib.hid ((HK0.out.trans HK1.out (fun _ _ h => h)).trans hk2 (fun _ _ h => h)); have HK02 := Lib.hid (HK1.out.trans hk2 (fun _ _ h => h)); clear hbb hk2; cases bb))
  · go_ret
    exact ⟨false, rfl, fun h => (by cases h), HK2.out⟩
  · have hnd := HND.out t HP.out (HB.out trivial)
    have HNOD := Lib.hid hnd
    clear hnd HB HRIS HS HRI HND c0 c1 c2
    go_loopw [3] (fun q wr => ∃ k : Nat, q = .int .i64 (k : Int) ∧ k ≤ m ∧ (∀ e ∈ edges.take k, edgeOk nodes e) ∧ Keep (fun _ => False) w2 wr) (fun q _ => m - (intOf q).toNat)
    case atStart => exact ⟨0, rfl, Nat.zero_le _, fun e he => (by simp at he), Keep.refl _ _⟩
    case round =>
      obtain ⟨k, rfl, hkm, hok, hkr⟩ := hrel
      have HOK := Lib.hid hok
      have HKR := Lib.hid hkr
      obtain ⟨c0, c1, c2⟩ := HCC.out wr (HK02.out.trans hkr (fun _ _ h => h))
      clear hok hkr
      by_cases hlt : k < m
      · obtain ⟨b, off, e, rfl, hek, hcc⟩ := HROW.out k hlt
        obtain ⟨e0, e1, e2⟩ := e
        obtain ⟨d0, d1, d2⟩ := hcc wr (HK2.out.trans HKR.out (fun _ _ h => h))
        have hst := take_ok HOK.out hek
        have hbe := fun W => boxE (heap_new wr (.cells #[.int .i64 e0, .int .i64 e1, .int .i64 e2] 51 (0, 0))) W
        have HST := Lib.hid hst
        have HBE := Lib.hid hbe
        clear hek hcc hst hbe
        dsimp only at d0 d1 d2
        have HW2 := Lib.hid (HK2.out.trans HKR.out (fun _ _ h => h))
        have hfin : ∀ W, Keep (fun _ => False) wr W → Keep (fun _ => False) w W := fun W h => HW2.out.trans h (fun _ _ h => h)
        have HFK := Lib.hid hfin
        clear hfin
        obtain ⟨n0, n1, n2⟩ := HCC.out (wr.alloc (.cells #[.int .i64 e0, .int .i64 e1, .int .i64 e2] 51 (0, 0))) ((HK02.out.trans HKR.out (fun _ _ h => h)).alloc _)
        by_cases h1 : e0 = e1
        · subst h1
          go_wp2_with fail
          go_ret
          exact ⟨false, rfl, fun h => (by cases h), HFK.out _ (by repeat first | exact Keep.refl _ _ | assumption | apply Keep.alloc | apply Keep.drewN | apply Keep.drew | (refine Keep.setCell ?_ _ (fun h => absurd h (Nat.lt_irrefl _))))⟩
        · have t1 : (e0 == e1) = false := by simpa using h1
          obtain ⟨x1, hx1⟩ : ∃ x, nodes.contains e0 = x := ⟨_, rfl⟩
          obtain ⟨x2, hx2⟩ : ∃ x, nodes.contains e1 = x := ⟨_, rfl⟩
          have ha1 := fun W hk => HHAS.out W hk e0
          have ha2 := fun W hk => HHAS.out W hk e1
          rw [hx1] at ha1
          rw [hx2] at ha2
          have HX1 := Lib.hid hx1
          have HX2 := Lib.hid hx2
          have HA1 := Lib.hid ha1
          have HA2 := Lib.hid ha2
          clear hx1 hx2 ha1 ha2 HHAS
          cases x1
          · go_wp2_with (first | (((with_reducible refine (HA1.out _ (HFK.out _ (by repeat first | exact Keep.refl _ _ | assumption | apply Keep.alloc | apply Keep.drewN | apply Keep.drew | (refine Keep.setCell ?_ _ (fun h => absurd h (Nat.lt_irrefl _)))))).mono ?_); rintro e w3 ⟨rfl, rfl⟩)))
            go_ret
            exact ⟨false, rfl, fun h => (by cases h), HFK.out _ (by repeat first | exact Keep.refl _ _ | assumption | apply Keep.alloc | apply Keep.drewN | apply Keep.drew | (refine Keep.setCell ?_ _ (fun h => absurd h (Nat.lt_irrefl _))))⟩
          · cases x2
            · go_wp2_with (first | (((with_reducible refine (HA1.out _ (HFK.out _ (by repeat first | exact Keep.refl _ _ | assumption | apply Keep.alloc | apply Keep.drewN | apply Keep.drew | (refine Keep.setCell ?_ _ (fun h => absurd h (Nat.lt_irrefl _)))))).mono ?_); rintro e w3 ⟨rfl, rfl⟩)) | (((with_reducible refine (HA2.out _ (HFK.out _ (by repeat first | exact Keep.refl _ _ | assumption | apply Keep.alloc | apply Keep.drewN | apply Keep.drew | (refine Keep.setCell ?_ _ (fun h => absurd h (Nat.lt_irrefl _)))))).mono ?_); rintro e w3 ⟨rfl, rfl⟩)))
              go_ret
              exact ⟨false, rfl, fun h => (by cases h), HFK.out _ (by repeat first | exact Keep.refl _ _ | assumption | apply Keep.alloc | apply Keep.drewN | apply Keep.drew | (refine Keep.setCell ?_ _ (fun h => absurd h (Nat.lt_irrefl _))))⟩
            · go_wp2_with (first | (((with_reducible refine (HA1.out _ (HFK.out _ (by repeat first | exact Keep.refl _ _ | assumption | apply Keep.alloc | apply Keep.drewN | apply Keep.drew | (refine Keep.setCell ?_ _ (fun h => absurd h (Nat.lt_irrefl _)))))).mono ?_); rintro e w3 ⟨rfl, rfl⟩)) | (((with_reducible refine (HA2.out _ (HFK.out _ (by repeat first | exact Keep.refl _ _ | assumption | apply Keep.alloc | apply Keep.drewN | apply Keep.drew | (refine Keep.setCell ?_ _ (fun h => absurd h (Nat.lt_irrefl _)))))).mono ?_); rintro e w3 ⟨rfl, rfl⟩)))
              all_goals first
                | (go_ret; exact ⟨false, rfl, fun h => (by cases h), HFK.out _ (by repeat first | exact Keep.refl _ _ | assumption | apply Keep.alloc | apply Keep.drewN | apply Keep.drew | (refine Keep.setCell ?_ _ (fun h => absurd h (Nat.lt_irrefl _))))⟩)
                | (go_roundw
                   case rel => exact ⟨k + 1, by go_num, by omega, HST.out ⟨by simpa using HX1.out, by simpa using HX2.out, h1, by show (-1099511627776 : Int) ≤ e2; omega, by show e2 ≤ 1099511627776; omega⟩, HKR.out.alloc _⟩
                   case measure => simp [intOf]; omega)
      · obtain rfl : m = k := by omega
        have hfin := HGOOD.out HNOD.out (fun e he => HOK.out e (by rw [← HEE.out, List.take_length]; exact he))
        have HFIN := Lib.hid hfin
        clear hfin
        go_wp2_with fail
        go_ret
        exact ⟨true, rfl, fun _ => HFIN.out, HK2.out.trans HKR.out (fun _ _ h => h)⟩
set_option maxHeartbeats 4000000 in
set_option maxRecDepth 20000 in
theorem few_spec {B : Nat} {w : World} {gv : Value} {g : IG} (h : GraphAt B w gv g) :
    Calls Tryz.prog 11 #[gv, .int .i64 4] w (Tells w (g.nodes.length ≤ 4 ∧ g.edges.length ≤ 32 ∧ g.Good)) := by
  have hw := fun W (hk : Keep (fun _ => False) w W) (h1 : g.nodes.length ≤ 1000) (h2 : g.edges.length ≤ 1000000) => well_spec (h.keepF hk) h1 h2
  obtain ⟨na, nc, ea, ec, rfl, -, -⟩ := graph_lens h
  have hk0 : Keep (fun _ => False) w (w.alloc (.cells #[.bool g.dir, .slice na g.nodes.length nc, .slice ea g.edges.length ec] 25 (0, 0))) := (Keep.refl _ w).alloc _
  generalize IG.Good g = GG at *
  obtain ⟨dir, nodes, edges⟩ := g
  dsimp only at *
  generalize nodes.length = n at *
  generalize edges.length = m at *
  have HW := Lib.hid hw
  have HK0 := Lib.hid hk0
  clear hw hk0 h
  go_enter Tryz.func11, Tryz.ntmps11
  by_cases h1 : n ≤ 4
  · by_cases h2 : m ≤ 32
    · have hi1 : (n : Int) ≤ 4 := by omega
      have hi2 : (m : Int) ≤ 32 := by omega
      have hwc := HW.out _ HK0.out (by omega) (by omega)
      have HWC := Lib.hid hwc
      clear hwc
      go_wp2_with (first | (((with_reducible refine (HWC.out).mono ?_); rintro e w1 ⟨bb, rfl, hb, hk⟩); have HB := Lib.hid hb; have HKK := Lib.hid (HK0.out.trans hk (fun _ _ h => h)); clear hb hk))
      go_ret
      exact ⟨bb, rfl, fun h => ⟨h1, h2, HB.out h⟩, HKK.out⟩
    · have hi1 : (n : Int) ≤ 4 := by omega
      have hi2 : ¬ (m : Int) ≤ 32 := by omega
      go_wp2_with fail
      go_ret
      exact ⟨false, rfl, fun h => (by cases h), HK0.out⟩
  · have hi1 : ¬ (n : Int) ≤ 4 := by omega
    go_wp2_with fail
    go_ret
    exact ⟨false, rfl, fun h => (by cases h), HK0.out⟩
end Go.Proofs.YtdaccgelmcmfjaaGreatDoor
end
