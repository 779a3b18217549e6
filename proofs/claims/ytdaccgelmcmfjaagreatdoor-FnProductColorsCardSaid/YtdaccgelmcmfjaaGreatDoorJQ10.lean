/- The saturation structure: where it lies; the choice of the next node (dsatur). -/
import Derived.Test.YtdaccgelmcmfjaaGreatDoorJQ1
import Derived.Test.YtdaccgelmcmfjaaGreatDoorJN3
import Derived.Maps.RangeWalk
set_option linter.all false
section
namespace Go.Proofs.YtdaccgelmcmfjaaGreatDoor
open Go.RowKit Go.V
structure SG where
  sb : Nat
  nb : Nat
  noff : Nat
  ncap : Nat
  ib : Nat
  db : Nat
  ab : Nat
  l : List Int
def SG.nodesV (s : SG) : Value := .slice (some ⟨s.nb, s.noff, none⟩) s.l.length s.ncap
def SG.ptr (s : SG) : Value := .pointer (some ⟨s.sb, 3, none⟩)
structure Sat (w : World) (s : SG) (pb : Nat) (cnt curr : Int) (heur cv wk : Value) : Prop where
  head : w.heap[s.sb]? = some (.cells #[.int .i64 cnt, .int .i64 curr, heur, s.nodesV, .map (some s.ib), .slice (some ⟨s.db, 0, none⟩) s.l.length s.l.length, .slice (some ⟨s.ab, 0, none⟩) s.l.length s.l.length, gV pb, cv, wk] 138 (0, 0))
  nodes : Cells w s.nb s.noff (s.l.map nodeV)
  small : s.l.length ≤ 1000
  idx : ∃ IX, ColAt w s.ib IX ∧ ∀ i u, s.l[i]? = some u → cget IX u = some i
  deg : ∃ cs, w.heap[s.db]? = some (.cells cs 3 (0, 0)) ∧ ∀ i, i < s.l.length → ∃ d : Int, cs[i]? = some (.int .i64 d)
  adj : ∃ cs, w.heap[s.ab]? = some (.cells cs 191 (0, 0)) ∧ cs.size = s.l.length
  n1 : s.nb ≠ s.sb
  n2 : s.db ≠ s.sb
  n3 : s.ab ≠ s.sb
  n4 : s.nb ≠ s.ab
  n5 : s.db ≠ s.ab
  nbl : s.nb < w.heap.size
variable {w w' : World} {s : SG} {pb : Nat} {cnt curr : Int} {heur cv wk : Value}
theorem Sat.keep {S : Nat → Prop} (h : Sat w s pb cnt curr heur cv wk) (hk : Keep S w w') (h1 : ¬ S s.sb) (h2 : ¬ S s.nb) (h3 : ¬ S s.ib) (h4 : ¬ S s.db) (h5 : ¬ S s.ab) : Sat w' s pb cnt curr heur cv wk :=
  ⟨hk.get h.head h1, h.nodes.keep hk h2, h.small, (let ⟨IX, a, b⟩ := h.idx; ⟨IX, a.keep hk h3, b⟩), (let ⟨cs, a, b⟩ := h.deg; ⟨cs, hk.get a h4, b⟩), (let ⟨cs, a, b⟩ := h.adj; ⟨cs, hk.get a h5, b⟩), h.n1, h.n2, h.n3, h.n4, h.n5, Nat.lt_of_lt_of_le h.nbl hk.size⟩
theorem Sat.keepF (h : Sat w s pb cnt curr heur cv wk) (hk : Keep (fun _ => False) w w') : Sat w' s pb cnt curr heur cv wk := h.keep hk (fun h => h) (fun h => h) (fun h => h) (fun h => h) (fun h => h)
theorem Sat.cells (h : Sat w s pb cnt curr heur cv wk) : w.cell? ⟨s.sb, 3, none⟩ = some s.nodesV ∧ w.cell? ⟨s.sb, 4, none⟩ = some (.map (some s.ib)) ∧ w.cell? ⟨s.sb, 5, none⟩ = some (.slice (some ⟨s.db, 0, none⟩) s.l.length s.l.length) ∧
    w.cell? ⟨s.sb, 6, none⟩ = some (.slice (some ⟨s.ab, 0, none⟩) s.l.length s.l.length) ∧ w.cell? ⟨s.sb, 7, none⟩ = some (gV pb) ∧ w.cell? ⟨s.sb, 8, none⟩ = some cv := by
  refine ⟨?_, ?_, ?_, ?_, ?_, ?_⟩ <;> (rw [cell_of h.head]; rfl)
theorem Sat.node (h : Sat w s pb cnt curr heur cv wk) {i : Nat} {u : Int} (hu : s.l[i]? = some u) : w.cell? ⟨s.nb, s.noff + i, none⟩ = some (nodeV u) := h.nodes i _ (by rw [List.getElem?_map, hu]; rfl)
theorem Sat.degAt (h : Sat w s pb cnt curr heur cv wk) {i : Nat} (hi : i < s.l.length) : ∃ d : Int, w.cell? ⟨s.db, i, none⟩ = some (.int .i64 d) := by
  obtain ⟨cs, h1, h2⟩ := h.deg
  obtain ⟨d, hd⟩ := h2 i hi
  exact ⟨d, by rw [cell_of h1]; exact hd⟩
set_option maxHeartbeats 8000000 in
set_option maxRecDepth 20000 in
theorem dsatur_spec {B cb : Nat} {G : PG} {C : PC} (hG : Plain B w pb G) (h : Sat w s pb cnt curr heur (.map (some cb)) wk) (hc : ColAt w cb C) (hl : ∀ u ∈ s.l, u ∈ G.ids) :
    Calls Tryz.prog 54 #[s.ptr] w fun e w' => ∃ r : Int, e = .returned (.int .i64 r) ∧ ((r = -1 ∧ ∀ u ∈ s.l, (cget C u).isSome) ∨ ∃ (i : Nat) (u : Int), r = (i : Int) ∧ s.l[i]? = some u ∧ cget C u = none) ∧ Keep (fun _ => False) w w' := by
  have hsat : ∀ u ∈ s.l, cget C u = none → ∀ W, Keep (fun _ => False) w W → Calls Tryz.prog 99 #[.int .i64 u, gV pb, .map (some cb)] W fun e w' => ∃ s : Nat, e = .returned (.int .i64 (s : Int)) ∧ Keep (fun _ => False) W w' := fun u hu hn W hk => by
    obtain ⟨i, hi⟩ := List.mem_iff_getElem?.1 (hl u hu)
    exact satOf_spec (hG.keepF hk) (hc.keepF hk) hi hn
  have hsm := h.small
  have hcell : ∀ W, Keep (fun _ => False) w W → W.cell? ⟨s.sb, 3, none⟩ = some s.nodesV ∧ W.cell? ⟨s.sb, 5, none⟩ = some (.slice (some ⟨s.db, 0, none⟩) s.l.length s.l.length) ∧ W.cell? ⟨s.sb, 7, none⟩ = some (gV pb) ∧ W.cell? ⟨s.sb, 8, none⟩ = some (.map (some cb)) := fun W hk => by
    obtain ⟨c3, c4, c5, c6, c7, c8⟩ := (h.keepF hk).cells
    exact ⟨c3, c5, c7, c8⟩
  have hnode : ∀ i u, s.l[i]? = some u → ∀ W, Keep (fun _ => False) w W → W.cell? ⟨s.nb, s.noff + i, none⟩ = some (nodeV u) ∧ ∃ d : Int, W.cell? ⟨s.db, i, none⟩ = some (.int .i64 d) := fun i u hu W hk => ⟨(h.keepF hk).node hu, (h.keepF hk).degAt (List.getElem?_eq_some_iff.1 hu).1⟩
  unfold SG.nodesV at hcell
  unfold SG.ptr
  have HSAT := Lib.hid hsat
  have HCELL := Lib.hid hcell
  have HNODE := Lib.hid hnode
  have HC := Lib.hid hc
  clear hsat hcell hnode hG hl h hc
  obtain ⟨sb, nb, noff, ncap, ib, db, ab, l⟩ := s
  simp only at *
  generalize hnn : l.length = n at *
  have HN := Lib.hid hnn
  clear hnn
  obtain ⟨c3, c5, c7, c8⟩ := HCELL.out w (Keep.refl _ _)
  go_enter Tryz.func54, Tryz.ntmps54
  go_wp2_with fail
  clear c3 c5 c7 c8
  go_loopw [3, 4, 5, 18] (fun ms md ch i wr => ∃ (k : Nat) (a b c : Int), i = .int .i64 (k : Int) ∧ ms = .int .i64 a ∧ md = .int .i64 b ∧ ch = .int .i64 c ∧ k ≤ n ∧ ((c = -1 ∧ a = -1 ∧ ∀ j u, j < k → l[j]? = some u → (cget C u).isSome) ∨ ∃ (i : Nat) (u : Int), c = (i : Int) ∧ l[i]? = some u ∧ cget C u = none) ∧ Keep (fun _ => False) w wr) (fun _ _ _ i _ => n - (intOf i).toNat)
  case atStart => exact ⟨0, -1, -1, -1, rfl, rfl, rfl, rfl, Nat.zero_le _, .inl ⟨rfl, rfl, fun _ _ h => absurd h (Nat.not_lt_zero _)⟩, Keep.refl _ _⟩
  case round =>
    obtain ⟨k, a, b, c, rfl, rfl, rfl, rfl, hkn, hor, hk⟩ := hrel
    have HOR := Lib.hid hor
    have HK := Lib.hid hk
    clear hor hk
    by_cases hlt : k < n
    · obtain ⟨u, hu⟩ : ∃ u, l[k]? = some u := ⟨_, List.getElem?_eq_getElem (by rw [HN.out]; exact hlt)⟩
      obtain ⟨cn, d, cd⟩ := HNODE.out k u hu wr HK.out
      obtain ⟨c3, c5, c7, c8⟩ := HCELL.out wr HK.out
      have HU := Lib.hid hu
      clear hu
      cases hcu : cget C u with
      | some x =>
        have hg : kget (ckv C) u = some (.int .i64 (x : Int)) := by rw [kget_ckv, hcu]; rfl
        have HG := Lib.hid hg
        have HCU := Lib.hid hcu
        clear hg hcu
        go_wp2_with (first
          | (((with_reducible refine (ID_at _ _).mono ?_); rintro e w3 ⟨rfl, rfl⟩))
          | (at_lookup; refine wpList_lookup_kv rfl _ _ _ _ rfl 2 3 Tryz.underlying83 Tryz.underlying2 (.int .i64 0) zeroI cb _ u rfl rfl (HC.out.keepF HK.out) ?_; rw [HG.out]))
        go_roundw
        case rel =>
          refine ⟨k + 1, a, b, c, by go_num, rfl, rfl, rfl, by omega, ?_, HK.out⟩
          rcases HOR.out with ⟨h1, h2, h3⟩ | h
          · refine .inl ⟨h1, h2, fun j v hj hv => ?_⟩
            rcases Nat.lt_succ_iff_lt_or_eq.1 hj with h | rfl
            · exact h3 j v h hv
            · rw [HU.out] at hv; cases hv; rw [HCU.out]; rfl
          · exact .inr h
        case measure => simp [intOf]; omega
      | none =>
        have hg : kget (ckv C) u = none := by rw [kget_ckv, hcu]; rfl
        have HG := Lib.hid hg
        have hs2 := HSAT.out u (List.mem_of_getElem? HU.out) hcu
        have HS2 := Lib.hid hs2
        have HCU := Lib.hid hcu
        clear hg hcu hs2
        go_wp2_with (first
          | (((with_reducible refine (ID_at _ _).mono ?_); rintro e w3 ⟨rfl, rfl⟩))
          | (at_lookup; refine wpList_lookup_kv rfl _ _ _ _ rfl 2 3 Tryz.underlying83 Tryz.underlying2 (.int .i64 0) zeroI cb _ u rfl rfl (HC.out.keepF HK.out) ?_; rw [HG.out]))
        go_upto_region 8 with fail
        go_cut [11] from 35 to 44 (fun tv wx => ∃ x : Nat, tv = .int .i64 (x : Int) ∧ Keep (fun _ => False) w wx)
        case first =>
          go_region_with (first | (((with_reducible refine (HS2.out _ (HK.out.drew)).mono ?_); rintro e w3 ⟨x, rfl, hk⟩); have HK3 := Lib.hid ((HK.out.drew).trans hk (fun _ _ h => h)); clear hk))
          all_goals (go_wp2_with fail)
          all_goals go_meet
          all_goals exact ⟨_, rfl, HK3.out⟩
        case rest =>
          obtain ⟨x, rfl, hk3⟩ := hcut
          obtain ⟨cn', d', cd'⟩ := HNODE.out k u HU.out _ hk3
          obtain ⟨c3', c5', c7', c8'⟩ := HCELL.out _ hk3
          have HK3 := Lib.hid hk3
          clear hk3 c3 c5 c7 c8 cn cd cn' c3'
          have hnew : ∃ (i : Nat) (v : Int), (k : Int) = (i : Int) ∧ l[i]? = some v ∧ cget C v = none := ⟨k, u, rfl, HU.out, HCU.out⟩
          have HNEW := Lib.hid hnew
          clear hnew
          go_wp2_with fail
          all_goals go_roundw
          all_goals first
            | (simp [intOf]; omega)
            | exact ⟨k + 1, _, _, _, by go_num, rfl, rfl, rfl, by omega, .inr HNEW.out, HK3.out⟩
            | (refine ⟨k + 1, _, _, _, by go_num, rfl, rfl, rfl, by omega, ?_, HK3.out⟩
               rcases HOR.out with ⟨h1, h2, h3⟩ | h
               · exfalso; omega
               · exact .inr h)
    · obtain rfl : k = n := by omega
      go_wp2_with fail
      go_ret
      refine ⟨c, rfl, ?_, HK.out⟩
      rcases HOR.out with ⟨h1, h2, h3⟩ | h
      · refine .inl ⟨h1, fun u hu => ?_⟩
        obtain ⟨j, hj⟩ := List.mem_iff_getElem?.1 hu
        exact h3 j u (by rw [← HN.out]; exact (List.getElem?_eq_some_iff.1 hj).1) hj
      · exact .inr h
end Go.Proofs.YtdaccgelmcmfjaaGreatDoor
end
/- A colouring copied (coloring.clone). -/
section
namespace Go.Proofs.YtdaccgelmcmfjaaGreatDoor
open Go.RowKit Go.V
theorem mem_ckv {C : PC} {k : Int} {v : Value} (h : (k, v) ∈ ckv C) : ∃ c : Nat, (k, c) ∈ C ∧ v = .int .i64 (c : Int) := by
  obtain ⟨p, hp, e⟩ := List.mem_map.1 h
  cases e; exact ⟨p.2, hp, rfl⟩
def Copied (C R D : PC) : Prop := ∀ u, cget D u = if (cget R u).isSome then none else cget C u
theorem Copied.start (C : PC) : Copied C C [] := fun u => by
  cases h : cget C u <;> simp [cget]
theorem Copied.step {C R D : PC} (h : Copied C R D) (hC : (C.map (·.1)).Nodup) (hs : R.Sublist C) {k : Int} {c : Nat} (hk : (k, c) ∈ R) : Copied C (cdel R k) (cput D k c) := fun u => by
  rw [cget_cput, cget_cdel, h u]
  by_cases hu : u = k
  · subst hu
    have : cget C u = some c := (cget_mem hC).2 (hs.mem hk)
    simp [this]
  · rw [if_neg hu, if_neg hu]
theorem Copied.done {C D : PC} (h : Copied C [] D) (u : Int) : cget D u = cget C u := by
  have := h u; simpa [cget] using this
theorem cdel_length {R : PC} {k : Int} {c : Nat} (h : (k, c) ∈ R) : (cdel R k).length < R.length := by
  unfold cdel
  exact List.length_filter_lt_length_iff_exists.2 ⟨(k, c), h, by simp⟩
set_option maxHeartbeats 4000000 in
set_option maxRecDepth 20000 in
theorem clone_spec {w : World} {cb : Nat} {C : PC} (h : ColAt w cb C) :
    Calls Tryz.prog 108 #[.map (some cb)] w fun e w' => ∃ m D, e = .returned (.map (some m)) ∧ w.heap.size ≤ m ∧ ColAt w' m D ∧ (∀ u, cget D u = cget C u) ∧ Keep (fun _ => False) w w' := by
  have hmm := @run_makeMapN Tryz.prog _ _ _ Tryz.underlying83
  have hnd := h.nodup
  have HND := Lib.hid hnd
  have H := Lib.hid h
  have hlt := h.lt
  clear h hnd
  go_enter Tryz.func108, Tryz.ntmps108
  go_wp2_with (first
    | (at_len; refine wpList_len_kv rfl _ _ rfl 2 3 Tryz.underlying83 cb _ rfl H.out ?_)
    | (at_range; refine wpList_range_kv rfl _ _ rfl 2 3 Tryz.underlying83 cb _ rfl (H.out.keepF ((Keep.refl (fun _ => False) w).alloc (.map #[] 0))) ?_; intro w1 hr hk hs; have HR := Lib.hid hr; have HK := Lib.hid (Keep.trans ((Keep.refl (fun _ => False) w).alloc (.map #[] 0)) hk (fun _ _ h => h)); have HM := Lib.hid (MapAt.keep (MapAt.made w) hk (fun h => h)); simp only [World.size_alloc] at hs; clear hr hk; go_frame))
  simp only [World.size_alloc] at *
  go_loopg [] (C.length + 1) (fun gk wr => ∃ R D, R.length + 1 = gk ∧ Rng wr (w.heap.size + 1) cb (ckv C) (ckv R) ∧ R.Sublist C ∧ ColAt wr w.heap.size D ∧ Copied C R D ∧ Keep (fun _ => False) w wr)
  case atStart => exact ⟨C, [], rfl, HR.out, List.Sublist.refl _, HM.out, Copied.start C, HK.out⟩
  case round =>
    obtain ⟨R, D, hgk, hr, hsub, hd, hcp, hk⟩ := hrel
    clear HR HM HK
    have HR := Lib.hid hr
    have HD := Lib.hid hd
    have HK := Lib.hid hk
    have HGK := Lib.hid hgk
    have HSUB := Lib.hid hsub
    have HCP := Lib.hid hcp
    clear hr hd hk hgk hsub hcp
    go_wp2_with (first
      | (at_next; refine wpList_next_ent rfl _ rfl (w.heap.size + 1) cb _ _ rfl HR.out ?_ ?_; rotate_left; intro k v w2 hmem hr2 hk2 hs2 hent; obtain ⟨c, hc, rfl⟩ := mem_ckv hmem; rw [kdel_ckv] at hr2; have HR2 := Lib.hid hr2; have HK2 := Lib.hid hk2; have HC := Lib.hid hc; clear hmem hr2 hk2 hs2 hc; rotate_left; intro hnil; have HNIL := Lib.hid hnil; clear hnil)
      | (at_mapUpdate; refine wpList_update_kv rfl _ _ _ _ rfl 2 3 Tryz.underlying83 Tryz.underlying2 w.heap.size _ k (.int .i64 (c : Int)) rfl rfl rfl (HD.out.keep HK2.out (by omega)) ?_; intro w3 h1 h2 h3; rw [kput_ckv] at h1; have H1 := Lib.hid h1; have HK3 := Lib.hid h2; clear h1 h2 h3))
    · go_ret
      have hR : R = [] := by have := HNIL.out; simpa [ckv] using this
      subst hR
      exact ⟨_, D, rfl, Nat.le_refl _, HD.out, HCP.out.done, HK.out⟩
    · go_roundg ((cdel R k).length + 1)
      case measure => have := HGK.out; have := cdel_length HC.out; omega
      case rel => exact ⟨cdel R k, _, rfl, Rng.keep HR2.out HK3.out (by omega) (by omega), (List.filter_sublist).trans HSUB.out, H1.out, Copied.step HCP.out HND.out HSUB.out HC.out, (HK.out.trans HK2.out (fun b hb h => by omega)).trans HK3.out (fun b hb h => by omega)⟩
end Go.Proofs.YtdaccgelmcmfjaaGreatDoor
end
/- (*saturationDegree).reset: each node's set holds the colours of its neighbours. -/
section
namespace Go.Proofs.YtdaccgelmcmfjaaGreatDoor
open Go.RowKit Go.V
def AdjK (w : World) (ab n base k : Nat) (KS : Nat → List Int) : Prop :=
  ∃ cs, w.heap[ab]? = some (.cells cs 191 (0, 0)) ∧ cs.size = n ∧ ∀ j, j < k → cs[j]? = some (.map (some (base + j))) ∧ SetAt w (base + j) (KS j)
theorem AdjK.keep {w w' : World} {ab n base k : Nat} {KS : Nat → List Int} {S : Nat → Prop} (h : AdjK w ab n base k KS) (hk : Keep S w w') (h1 : ¬ S ab) (h2 : ∀ j, j < k → ¬ S (base + j)) : AdjK w' ab n base k KS := by
  obtain ⟨cs, a, b, c⟩ := h
  exact ⟨cs, hk.get a h1, b, fun j hj => ⟨(c j hj).1, (c j hj).2.keep hk (h2 j hj)⟩⟩
theorem AdjK.cell {w : World} {ab n base k j : Nat} {KS : Nat → List Int} (h : AdjK w ab n base k KS) (hj : j < k) : w.cell? ⟨ab, j, none⟩ = some (.map (some (base + j))) := by
  obtain ⟨cs, a, b, c⟩ := h
  rw [cell_of a]; exact (c j hj).1
theorem AdjK.get {w : World} {ab n base k j : Nat} {KS : Nat → List Int} (h : AdjK w ab n base k KS) (hj : j < k) : SetAt w (base + j) (KS j) := by
  obtain ⟨cs, a, b, c⟩ := h
  exact (c j hj).2
theorem AdjK.open {w : World} {ab n base k j : Nat} {KS : Nat → List Int} (h : AdjK w ab n base k KS) (hj : j < n) : (∃ v, w.cell? ⟨ab, j, none⟩ = some v) ∧ w.frozen? ⟨ab, j, none⟩ = false := by
  obtain ⟨cs, a, b, c⟩ := h
  exact ⟨by rw [cell_of a]; exact ⟨_, Array.getElem?_eq_getElem (by rw [b]; exact hj)⟩, free_of a _⟩
theorem AdjK.make {w : World} {ab n base k : Nat} (h : AdjK w ab n base k (fun _ => [])) (hs : w.heap.size = base + k) (hk : k < n) :
    AdjK ((w.setCell ⟨ab, k, none⟩ (.map (some w.heap.size))).alloc (.map #[] 0)) ab n base (k + 1) (fun _ => []) := by
  obtain ⟨cs, a, b, c⟩ := h
  have hlt := lt_of_get a
  have hs1 : (w.setCell ⟨ab, k, none⟩ (.map (some w.heap.size))).heap.size = w.heap.size := by simp
  have a' := heapV_setCell a k (.map (some w.heap.size))
  have hka := (Keep.refl (fun _ => False) (w.setCell ⟨ab, k, none⟩ (.map (some w.heap.size)))).alloc (.map #[] 0)
  refine ⟨_, hka.get a' (fun h => h), by simp [b], fun j hj => ?_⟩
  have hk1 : Keep (fun x => x = ab) w (w.setCell ⟨ab, k, none⟩ (.map (some w.heap.size))) := (Keep.refl _ _).setCell (a := ⟨ab, k, none⟩) _ (fun _ => rfl)
  rcases Nat.lt_succ_iff_lt_or_eq.1 hj with h | rfl
  · refine ⟨by rw [Array.getElem?_setIfInBounds]; rw [if_neg (by omega)]; exact (c j h).1, ?_⟩
    have hs2 := (c j h).2
    have hb : base + j ≠ ab := fun e => by obtain ⟨es, cl, hm, _⟩ := hs2; rw [e, a] at hm; cases hm
    exact (hs2.keep hk1 hb).keep hka (fun h => h)
  · refine ⟨by rw [Array.getElem?_setIfInBounds]; simp [b, hk, hs], ?_⟩
    have := SetAt.made (w.setCell ⟨ab, j, none⟩ (.map (some w.heap.size)))
    rw [hs1, hs] at this
    rw [hs]; exact this
theorem AdjK.add {w w' : World} {ab n base k j : Nat} {KS : Nat → List Int} {ks : List Int} (h : AdjK w ab n base k KS) (hab : ab < base) (hk : Keep (fun b => b = base + j) w w') (hs : SetAt w' (base + j) ks) :
    AdjK w' ab n base k (fun i => if i = j then ks else KS i) := by
  obtain ⟨cs, a, b, c⟩ := h
  refine ⟨cs, hk.get a (by omega), b, fun i hi => ⟨(c i hi).1, ?_⟩⟩
  show SetAt w' (base + i) (if i = j then ks else KS i)
  split
  · rename_i e; subst e; exact hs
  · exact (c i hi).2.keep hk (by omega)
variable {w w' : World} {s : SG} {pb : Nat} {cnt curr : Int} {heur cv wk : Value}
theorem Sat.recolor (h : Sat w s pb cnt curr heur cv wk) (v : Value) : Sat (w.setCell ⟨s.sb, 8, none⟩ v) s pb cnt curr heur v wk := by
  have hk : Keep (fun b => b = s.sb) w (w.setCell ⟨s.sb, 8, none⟩ v) := (Keep.refl _ _).setCell (a := ⟨s.sb, 8, none⟩) _ (fun _ => rfl)
  refine ⟨by rw [heapV_setCell h.head]; rfl, h.nodes.keep hk h.n1, h.small, ?_, ?_, ?_, h.n1, h.n2, h.n3, h.n4, h.n5, Nat.lt_of_lt_of_le h.nbl hk.size⟩
  · obtain ⟨IX, a, b⟩ := h.idx
    refine ⟨IX, a.keep hk (fun e => ?_), b⟩
    obtain ⟨es, c, h1, _⟩ := a
    rw [e, h.head] at h1; cases h1
  · obtain ⟨cs, a, b⟩ := h.deg; exact ⟨cs, hk.get a h.n2, b⟩
  · obtain ⟨cs, a, b⟩ := h.adj; exact ⟨cs, hk.get a h.n3, b⟩
theorem Sat.adjK (h : Sat w s pb cnt curr heur cv wk) (base : Nat) : AdjK w s.ab s.l.length base 0 (fun _ => []) := by
  obtain ⟨cs, a, b⟩ := h.adj
  exact ⟨cs, a, b, fun j hj => absurd hj (Nat.not_lt_zero _)⟩
theorem Sat.keepAdj (h : Sat w s pb cnt curr heur cv wk) {S : Nat → Prop} (hk : Keep S w w') (hS : ∀ b, b < w.heap.size → S b → b = s.ab) {base k : Nat} {KS : Nat → List Int} (ha : AdjK w' s.ab s.l.length base k KS) : Sat w' s pb cnt curr heur cv wk := by
  have hk2 : Keep (fun b => b = s.ab) w w' := hk.mono hS
  obtain ⟨cs, a, b, _⟩ := ha
  refine ⟨hk2.get h.head (fun e => h.n3 e.symm), h.nodes.keep hk2 h.n4, h.small, ?_, ?_, ⟨cs, a, b⟩, h.n1, h.n2, h.n3, h.n4, h.n5, Nat.lt_of_lt_of_le h.nbl hk.size⟩
  · obtain ⟨IX, a, b⟩ := h.idx
    refine ⟨IX, a.keep hk2 (fun e => ?_), b⟩
    obtain ⟨es, c, h1, _⟩ := a
    obtain ⟨cs, h2, _⟩ := h.adj
    rw [e, h2] at h1; cases h1
  · obtain ⟨cs, a, b⟩ := h.deg; exact ⟨cs, hk2.get a h.n5, b⟩
theorem Sat.sb_lt (h : Sat w s pb cnt curr heur cv wk) : s.sb < w.heap.size := lt_of_get h.head
theorem Sat.ab_lt (h : Sat w s pb cnt curr heur cv wk) : s.ab < w.heap.size := by obtain ⟨cs, a, _⟩ := h.adj; exact lt_of_get a
theorem Sat.colNe (h : Sat w s pb cnt curr heur cv wk) {cb : Nat} {C : PC} (hc : ColAt w cb C) : cb ≠ s.sb ∧ cb ≠ s.ab := by
  obtain ⟨cs, a, _⟩ := h.adj
  exact ⟨MapAt.ne_cells hc h.head, MapAt.ne_cells hc a⟩
def Done (G : PG) (C R : PC) (u x : Int) : Prop := ∃ (v : Int) (c : Nat), (v, c) ∈ C ∧ cget R v = none ∧ G.adj v u ∧ x = (c : Int)
def DoneK (G : PG) (C R : PC) (l : List Int) (n : Nat) (KS : Nat → List Int) : Prop := ∀ j u, j < n → l[j]? = some u → ∀ x, x ∈ KS j ↔ Done G C R u x
theorem DoneK.start {G : PG} {C : PC} {l : List Int} {n : Nat} (hn : (C.map (·.1)).Nodup) : DoneK G C C l n (fun _ => []) := fun j u _ _ x => by
  constructor
  · intro h; cases h
  · rintro ⟨v, c, h1, h2, _⟩
    rw [(cget_mem hn).2 h1] at h2; cases h2
def MidK (G : PG) (C R : PC) (l : List Int) (n : Nat) (m : List Int) (c : Nat) (t : Nat) (KS : Nat → List Int) : Prop := ∀ j u, j < n → l[j]? = some u → ∀ x, x ∈ KS j ↔ Done G C R u x ∨ (u ∈ m.take t ∧ x = (c : Int))
theorem MidK.start {G : PG} {C R : PC} {l m : List Int} {n c : Nat} {KS : Nat → List Int} (h : DoneK G C R l n KS) : MidK G C R l n m c 0 KS := fun j u hj hu x => by rw [h j u hj hu x]; simp
theorem MidK.step {G : PG} {C R : PC} {l m : List Int} {n c t i : Nat} {KS : Nat → List Int} {v : Int} (h : MidK G C R l n m c t KS) (hl : l.Nodup) (hi : l[i]? = some v) (hv : m[t]? = some v) :
    MidK G C R l n m c (t + 1) (fun j => if j = i then sadd (KS i) (c : Int) else KS j) := fun j u hj hu x => by
  have ht : m.take (t + 1) = m.take t ++ [v] := by rw [List.take_add_one, hv]; rfl
  show x ∈ (if j = i then sadd (KS i) (c : Int) else KS j) ↔ _
  rw [ht]
  simp only [List.mem_append, List.mem_singleton]
  split
  · rename_i e; subst e
    have e2 : v = u := Option.some.inj (hi.symm.trans hu)
    rw [e2, mem_sadd, h j u hj hu x]
    constructor
    · rintro ((h | ⟨h1, h2⟩) | h)
      · exact .inl h
      · exact .inr ⟨.inl h1, h2⟩
      · exact .inr ⟨.inr rfl, h⟩
    · rintro (h | ⟨_, h⟩)
      · exact .inl (.inl h)
      · exact .inr h
  · rename_i e
    rw [h j u hj hu x]
    have hne : u ≠ v := by
      rintro rfl
      obtain ⟨a, e1⟩ := List.getElem?_eq_some_iff.1 hu
      obtain ⟨b, e2⟩ := List.getElem?_eq_some_iff.1 hi
      exact e ((List.getElem_inj hl).1 (e1.trans e2.symm))
    constructor
    · rintro (h | ⟨h1, h2⟩)
      · exact .inl h
      · exact .inr ⟨.inl h1, h2⟩
    · rintro (h | ⟨h1 | h1, h2⟩)
      · exact .inl h
      · exact .inr ⟨h1, h2⟩
      · exact absurd h1 hne
theorem MidK.done {G : PG} {C R : PC} {l m : List Int} {n c : Nat} {KS : Nat → List Int} {k : Int} (h : MidK G C R l n m c m.length KS) (hC : (C.map (·.1)).Nodup) (hs : R.Sublist C) (hk : (k, c) ∈ R) (hm : ∀ u, u ∈ m ↔ G.adj k u) :
    DoneK G C (cdel R k) l n KS := fun j u hj hu x => by
  rw [h j u hj hu x, List.take_length]
  constructor
  · rintro (⟨v, d, h1, h2, h3, h4⟩ | ⟨h1, h2⟩)
    · exact ⟨v, d, h1, by rw [cget_cdel, h2]; split <;> rfl, h3, h4⟩
    · exact ⟨k, c, hs.mem hk, by rw [cget_cdel, if_pos rfl], (hm u).1 h1, h2⟩
  · rintro ⟨v, d, h1, h2, h3, h4⟩
    rw [cget_cdel] at h2
    split at h2
    · rename_i e; subst e
      have e1 := (cget_mem hC).2 h1
      have e2 := (cget_mem hC).2 (hs.mem hk)
      rw [e1] at e2; cases e2
      exact .inr ⟨(hm u).2 h3, h4⟩
    · exact .inl ⟨v, d, h1, h2, h3, h4⟩
theorem DoneK.fin {G : PG} {C : PC} {l : List Int} {n : Nat} {KS : Nat → List Int} (h : DoneK G C [] l n KS) (hC : (C.map (·.1)).Nodup) (hn : l.length = n) {j : Nat} {u : Int} (hu : l[j]? = some u) (x : Int) :
    x ∈ KS j ↔ ∃ (v : Int) (c : Nat), cget C v = some c ∧ G.adj v u ∧ x = (c : Int) := by
  rw [h j u (by rw [← hn]; exact (List.getElem?_eq_some_iff.1 hu).1) hu x]
  constructor
  · rintro ⟨v, c, h1, _, h3, h4⟩; exact ⟨v, c, (cget_mem hC).2 h1, h3, h4⟩
  · rintro ⟨v, c, h1, h3, h4⟩; exact ⟨v, c, (cget_mem hC).1 h1, rfl, h3, h4⟩
end Go.Proofs.YtdaccgelmcmfjaaGreatDoor
end
