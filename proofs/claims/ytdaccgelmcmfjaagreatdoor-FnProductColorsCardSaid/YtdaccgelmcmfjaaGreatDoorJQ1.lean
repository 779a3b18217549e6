/- How many colours the neighbours of a node have (coloring.saturationDegreeOf), which (colorsOf). -/
import Derived.Test.YtdaccgelmcmfjaaGreatDoorJG0
import Derived.Test.YtdaccgelmcmfjaaGreatDoorJV0
import Derived.Deep.CutRange
import Derived.Deep.RegionLaw
set_option linter.all false
section
namespace Go.Proofs.YtdaccgelmcmfjaaGreatDoor
open Go.RowKit Go.V
def ColAt (w : World) (m : Nat) (C : PC) : Prop := MapAt w m (ckv C)
theorem ColAt.keep {w w' : World} {m : Nat} {C : PC} {S : Nat → Prop} (h : ColAt w m C) (hk : Keep S w w') (hn : ¬ S m) : ColAt w' m C := MapAt.keep h hk hn
theorem ColAt.keepF {w w' : World} {m : Nat} {C : PC} (h : ColAt w m C) (hk : Keep (fun _ => False) w w') : ColAt w' m C := h.keep hk (fun h => h)
theorem ColAt.lt {w : World} {m : Nat} {C : PC} (h : ColAt w m C) : m < w.heap.size := MapAt.lt h
theorem ColAt.nodup {w : World} {m : Nat} {C : PC} (h : ColAt w m C) : (C.map (·.1)).Nodup := by
  have := MapAt.nodup h
  rwa [show (ckv C).map (·.1) = C.map (·.1) by unfold ckv; rw [List.map_map]; rfl] at this
theorem zeroI (w : World) : (zeroValue 3).run Tryz.prog w = .ok (.int .i64 0) w := by kernel_rfl
theorem From_any {B : Nat} {w : World} {pb : Nat} {G : PG} (h : Plain B w pb G) {i : Nat} {id : Int} (hid : G.ids[i]? = some id) (W : World) (hk : Keep (fun _ => False) w W) :
    Calls Tryz.prog 257 #[uV pb, .int .i64 id] W fun e w' => ∃ it g, e = .returned (.iface 284 (.pointer (some ⟨it, 0, none⟩))) ∧ Iter w' it g ((G.nbr i).map nodeV) 0 ∧ W.heap.size ≤ it ∧ W.heap.size ≤ g ∧ Keep (fun _ => False) W w' :=
  uFrom_spec (h.keepF hk) hid
set_option maxHeartbeats 4000000 in
set_option maxRecDepth 20000 in
theorem satOf_spec {B : Nat} {w : World} {pb cb : Nat} {G : PG} {C : PC} (h : Plain B w pb G) (hc : ColAt w cb C) {i : Nat} {u : Int} (hu : G.ids[i]? = some u) (hn : cget C u = none) :
    Calls Tryz.prog 99 #[.int .i64 u, gV pb, .map (some cb)] w fun e w' => ∃ s : Nat, e = .returned (.int .i64 (s : Int)) ∧ Keep (fun _ => False) w w' := by
  have hmm := @run_makeMap Tryz.prog
  have hg : kget (ckv C) u = none := by rw [kget_ckv, hn]; rfl
  have HG := Lib.hid hg
  have HF := Lib.hid (From_any h hu)
  have HC := Lib.hid hc
  have hin := (List.getElem?_eq_some_iff.1 hu).1
  generalize hnb : G.nbr i = l at *
  clear hg hc hn hu h hnb
  go_enter Tryz.func99, Tryz.ntmps99
  go_wp2_with (first
    | (at_lookup; refine wpList_lookup_kv rfl _ _ _ _ rfl 2 3 Tryz.underlying83 Tryz.underlying2 (.int .i64 0) zeroI cb _ u rfl rfl HC.out ?_; rw [HG.out])
    | (((with_reducible refine (HF.out _ (by repeat first | exact Keep.refl _ _ | assumption | apply Keep.alloc | apply Keep.drewN | apply Keep.drew | (refine Keep.setCell ?_ _ (fun h => absurd h (Nat.lt_irrefl _))))).mono ?_); rintro e w1 ⟨it, g, rfl, hi1, hl1, hl2, hk1⟩); have hs1 := (SetAt.made w).keep hk1 (fun h => h); have hk0 := Keep.trans ((Keep.refl (fun _ => False) w).alloc (.map #[] 0)) hk1 (fun _ _ h => h); simp only [World.size_alloc] at hl1 hl2; have HI := Lib.hid hi1; have HS := Lib.hid hs1; have HK := Lib.hid hk0; clear hi1 hs1 hk0 hk1))
  go_loopg [] (l.length + 1) (fun gk wr => ∃ j ks, j + gk = l.length + 1 ∧ j ≤ l.length ∧ Iter wr it g (l.map nodeV) j ∧ SetAt wr w.heap.size ks ∧ Keep (fun _ => False) w wr)
  case atStart => exact ⟨0, [], by omega, by omega, HI.out, HS.out, HK.out⟩
  case round =>
    obtain ⟨j, ks, hgk, hjl, hi, hs, hk⟩ := hrel
    clear HI HS HK
    have HI := Lib.hid hi
    have HS := Lib.hid hs
    have HK := Lib.hid hk
    have HGK := Lib.hid hgk
    clear hi hs hk hgk
    by_cases hlt : j < l.length
    · obtain ⟨v, hv⟩ : ∃ v, l[j]? = some v := ⟨_, List.getElem?_eq_getElem hlt⟩
      have HV := Lib.hid hv
      clear hv
      cases hcv : cget C v with
      | none =>
        have hg : kget (ckv C) v = none := by rw [kget_ckv, hcv]; rfl
        have HG2 := Lib.hid hg
        clear hg hcv
        go_wp2_with (first
          | (((with_reducible refine (Next_true HI.out hlt).mono ?_); rintro e w2 ⟨rfl, hi2, hk2, hs2⟩); have hS2 := HS.out.keep hk2 (by omega); have hK2 := HK.out.trans hk2 (fun b hb h => by omega); have HI2 := Lib.hid hi2; have HS2 := Lib.hid hS2; have HK2 := Lib.hid hK2; clear hi2 hk2 hS2 hK2 hs2)
          | (((with_reducible refine (Node_at HI2.out HV.out).mono ?_); rintro e w3 ⟨rfl, q, rfl⟩))
          | (((with_reducible refine (ID_spec _ _).mono ?_); rintro e w3 ⟨rfl, rfl⟩))
          | (at_lookup; refine wpList_lookup_kv rfl _ _ _ _ rfl 2 3 Tryz.underlying83 Tryz.underlying2 (.int .i64 0) zeroI cb _ v rfl rfl (HC.out.keepF (HK2.out.drewN q)) ?_; rw [HG2.out]))
        go_roundg (gk - 1)
        case measure => have := HGK.out; omega
        case rel => exact ⟨j + 1, ks, by have := HGK.out; omega, by omega, HI2.out.keep ((Keep.refl (fun _ => False) w2).drewN q) (fun h => h) (fun h => h), HS2.out.keep ((Keep.refl (fun _ => False) w2).drewN q) (fun h => h), HK2.out.drewN q⟩
      | some c =>
        have hg : kget (ckv C) v = some (.int .i64 (c : Int)) := by rw [kget_ckv, hcv]; rfl
        have HG2 := Lib.hid hg
        clear hg hcv
        go_wp2_with (first
          | (((with_reducible refine (Next_true HI.out hlt).mono ?_); rintro e w2 ⟨rfl, hi2, hk2, hs2⟩); have hS2 := HS.out.keep hk2 (by omega); have hK2 := HK.out.trans hk2 (fun b hb h => by omega); have HI2 := Lib.hid hi2; have HS2 := Lib.hid hS2; have HK2 := Lib.hid hK2; clear hi2 hk2 hS2 hK2 hs2)
          | (((with_reducible refine (Node_at HI2.out HV.out).mono ?_); rintro e w3 ⟨rfl, q, rfl⟩))
          | (((with_reducible refine (ID_spec _ _).mono ?_); rintro e w3 ⟨rfl, rfl⟩))
          | (at_lookup; refine wpList_lookup_kv rfl _ _ _ _ rfl 2 3 Tryz.underlying83 Tryz.underlying2 (.int .i64 0) zeroI cb _ v rfl rfl (HC.out.keepF (HK2.out.drewN q)) ?_; rw [HG2.out])
          | (((with_reducible refine (AddI_spec (HS2.out.keep ((Keep.refl (fun _ => False) w2).drewN q) (fun h => h)) _).mono ?_); rintro e w4 ⟨rfl, h4, hk4, hs4⟩); have HS4 := Lib.hid h4; have HK4 := Lib.hid hk4; clear h4 hk4 hs4))
        go_roundg (gk - 1)
        case measure => have := HGK.out; omega
        case rel => exact ⟨j + 1, _, by have := HGK.out; omega, by omega, (HI2.out.keep ((Keep.refl (fun _ => False) w2).drewN q) (fun h => h) (fun h => h)).keep HK4.out (by omega) (by omega), HS4.out, (HK2.out.drewN q).trans HK4.out (fun b hb h => by omega)⟩
    · obtain rfl : j = l.length := by omega
      go_wp2_with (first
        | (((with_reducible refine (Next_false HI.out).mono ?_); rintro e w2 ⟨rfl, hk2, hs2⟩); have hS2 := HS.out.keep hk2 (by omega); have hK2 := HK.out.trans hk2 (fun b hb h => by omega); have HS2 := Lib.hid hS2; have HK2 := Lib.hid hK2; clear hk2 hS2 hK2 hs2)
        | (((with_reducible refine (CountI_spec HS2.out).mono ?_); rintro e w3 ⟨rfl, rfl⟩)))
      go_ret
      exact ⟨ks.length, rfl, HK2.out⟩
end Go.Proofs.YtdaccgelmcmfjaaGreatDoor
end
/- The colours of some nodes (coloring.colorsOf); a colouring copied (clone); a clique's colouring (colorClique). -/
section
namespace Go.Proofs.YtdaccgelmcmfjaaGreatDoor
open Go.RowKit Go.V
theorem MapAt.ne_cells {w : World} {m b : Nat} {kvs : KV} {cs : Array Value} {t : TypeId} {fr : Nat × Nat} (h : MapAt w m kvs) (hb : w.heap[b]? = some (.cells cs t fr)) : m ≠ b := by
  rintro rfl
  obtain ⟨es, c, h1, _⟩ := h
  rw [h1] at hb; cases hb
theorem Iter.ne_map {w : World} {it g m : Nat} {xs : List Value} {k : Nat} {kvs : KV} (h : Iter w it g xs k) (hm : MapAt w m kvs) : m ≠ it := by
  obtain ⟨off, cap, hh, _⟩ := h
  exact MapAt.ne_cells hm hh
theorem nodes_cases {B : Nat} {w : World} {v : Value} {l : List Int} (h : Row B w v (l.map nodeV)) :
    ∃ a cap, v = .slice a l.length cap ∧ ∀ k, k < l.length → ∃ b off u, a = some ⟨b, off, none⟩ ∧ l[k]? = some u ∧ b < B ∧ ∀ S W, Keep S w W → (∀ k, S k → B ≤ k) → W.cell? ⟨b, off + k, none⟩ = some (nodeV u) := by
  rcases h with ⟨rfl, hu⟩ | ⟨b, off, cap, rfl, hB, hc, hl, hm⟩
  · have : l = [] := by simpa using hu
    subst this
    exact ⟨none, 0, rfl, fun k hk => by cases hk⟩
  · rw [List.length_map]
    refine ⟨_, cap, rfl, fun k hk => ⟨b, off, _, rfl, List.getElem?_eq_getElem hk, hB, fun S W hk' hS => ?_⟩⟩
    have := hc k (nodeV l[k]) (by rw [List.getElem?_map, List.getElem?_eq_getElem hk]; rfl)
    rw [hk'.cell (a := ⟨b, off + k, none⟩) (World.block_lt_of_cell? _ _ this) (fun h => by have := hS _ h; have : B ≤ b := this; omega)]; exact this
theorem cget_zip_take {l : List Int} (hn : l.Nodup) {k : Nat} {u : Int} (hk : l[k]? = some u) : cput (l.take k).zipIdx u k = (l.take (k + 1)).zipIdx := by
  have hlt := (List.getElem?_eq_some_iff.1 hk).1
  have hnot : u ∉ l.take k := by
    intro hu
    obtain ⟨j, hj⟩ := List.mem_iff_getElem?.1 hu
    rw [List.getElem?_take] at hj
    split at hj
    · rename_i hjk
      obtain ⟨h1, e1⟩ := List.getElem?_eq_some_iff.1 hj
      obtain ⟨h2, e2⟩ := List.getElem?_eq_some_iff.1 hk
      have := (List.getElem_inj (h₀ := h1) (h₁ := h2) hn).1 (e1.trans e2.symm)
      omega
    · cases hj
  unfold cput
  rw [if_neg, List.take_add_one, hk, List.zipIdx_append]
  · simp [List.length_take, Nat.min_eq_left (Nat.le_of_lt hlt)]
  · intro ha
    obtain ⟨p, hp, e⟩ := List.any_eq_true.1 ha
    have e : p.1 = u := by simpa using e
    have := List.fst_mem_of_mem_zipIdx hp
    exact hnot (e ▸ this)
set_option maxHeartbeats 4000000 in
set_option maxRecDepth 20000 in
theorem colorClique_spec {B : Nat} {w : World} {v : Value} {l : List Int} (h : Row B w v (l.map nodeV)) (hn : l.Nodup) (hlen : l.length ≤ 1000000) :
    Calls Tryz.prog 52 #[v] w fun e w' => ∃ m, e = .returned (.map (some m)) ∧ w.heap.size ≤ m ∧ ColAt w' m l.zipIdx ∧ Keep (fun _ => False) w w' := by
  have hmm := @run_makeMapN Tryz.prog _ _ _ Tryz.underlying83
  obtain ⟨a, cap, rfl, hc⟩ := nodes_cases h
  have hz := fun k u => @cget_zip_take l hn k u
  have hfin : (l.take l.length).zipIdx = l.zipIdx := by rw [List.take_length]
  have HFIN := Lib.hid hfin
  generalize hnn : l.length = n at *
  have HC := Lib.hid hc
  have HZ := Lib.hid hz
  clear hc h hnn hz hn hfin
  go_enter Tryz.func52, Tryz.ntmps52
  go_wp2_with fail
  have hk0 := (Keep.refl (fun _ => False) w).alloc (.map #[] 0)
  have hm0 : ColAt (w.alloc (.map #[] 0)) w.heap.size (l.take 0).zipIdx := MapAt.made w
  have HK0 := Lib.hid hk0
  have HM0 := Lib.hid hm0
  clear hk0 hm0
  go_loopw [11] (fun i wr => ∃ k : Nat, i = .int .i64 (k : Int) ∧ k ≤ n ∧ ColAt wr w.heap.size (l.take k).zipIdx ∧ Keep (fun _ => False) w wr) (fun i _ => n - (intOf i).toNat)
  case atStart => exact ⟨0, rfl, Nat.zero_le _, HM0.out, HK0.out⟩
  case round =>
    obtain ⟨k, rfl, hkn, hm, hk⟩ := hrel
    have HM := Lib.hid hm
    have HK := Lib.hid hk
    clear hm hk
    by_cases hlt : k < n
    · obtain ⟨b, off, u, rfl, hu, _, hcc⟩ := HC.out k hlt
      have c0 := hcc _ _ HK.out (fun _ h => h.elim)
      have HU := Lib.hid hu
      clear hcc hu
      go_wp2_with (first
        | (((with_reducible refine (ID_spec _ _).mono ?_); rintro e w3 ⟨rfl, rfl⟩))
        | (at_mapUpdate; refine wpList_update_kv rfl _ _ _ _ rfl 2 3 Tryz.underlying83 Tryz.underlying2 w.heap.size _ u (.int .i64 (k : Int)) rfl rfl rfl HM.out ?_; intro w1 h1 h2 h3; rw [kput_ckv] at h1; have H1 := Lib.hid h1; have H2 := Lib.hid h2; clear h1 h2 h3))
      go_roundw
      case rel => exact ⟨k + 1, by go_num, by omega, by rw [← HZ.out k u HU.out]; exact H1.out, HK.out.trans H2.out (fun b hb h => by omega)⟩
      case measure => simp [intOf]; omega
    · obtain rfl : k = n := by omega
      go_wp2_with fail
      go_ret
      exact ⟨_, rfl, Nat.le_refl _, by rw [← HFIN.out]; exact HM.out, HK.out⟩
end Go.Proofs.YtdaccgelmcmfjaaGreatDoor
end
/- coloring.cliqueDegree: it returns some number. -/
section
namespace Go.Proofs.YtdaccgelmcmfjaaGreatDoor
open Go.RowKit Go.V
def FromAt (w wx : World) (tv : Value) (l : List Int) : Prop := ∃ it g, tv = .iface 284 (.pointer (some ⟨it, 0, none⟩)) ∧ Iter wx it g (l.map nodeV) 0 ∧ w.heap.size ≤ it ∧ w.heap.size ≤ g ∧ Keep (fun _ => False) w wx
theorem FromAt.undrew {w wx : World} {tv : Value} {l : List Int} (h : FromAt w.drew wx tv l) : FromAt w wx tv l := by
  obtain ⟨it, g, h1, h2, h3, h4, h5⟩ := h
  exact ⟨it, g, h1, h2, h3, h4, Keep.trans (Keep.refl (fun _ => False) w).drew h5 (fun _ _ h => h)⟩
theorem nilFrom (pb : Nat) (w : World) : (nilAhead 462 96 (uV pb) "From").run Tryz.prog w = .ok (some false) w := by kernel_rfl
set_option maxHeartbeats 4000000 in
set_option maxRecDepth 20000 in
theorem cliqueDegree_spec {B B' : Nat} {w : World} {pb : Nat} {G : PG} {v : Value} {l : List Int} (hG : Plain B w pb G) (h : Row B' w v (l.map nodeV)) (hl : ∀ u ∈ l, u ∈ G.ids) (hlen : l.length ≤ 1000000) :
    Calls Tryz.prog 107 #[gV pb, v] w fun e w' => ∃ d : Int, e = .returned (.int .i64 d) ∧ Keep (fun _ => False) w w' := by
  have hmm := @run_makeMap Tryz.prog
  have hnf := nilFrom pb
  obtain ⟨a, cap, rfl, hc⟩ := nodes_cases h
  have hfr : ∀ u ∈ l, ∃ m : List Int, ∀ W, Keep (fun _ => False) w W → Calls Tryz.prog 257 #[uV pb, .int .i64 u] W fun e w' => ∃ tv, e = .returned tv ∧ FromAt W w' tv m := fun u hu => by
    obtain ⟨i, hi⟩ := List.mem_iff_getElem?.1 (hl u hu)
    exact ⟨_, fun W hk => (From_any hG hi W hk).mono (by rintro e w' ⟨it, g, rfl, h1, h2, h3, h4⟩; exact ⟨_, rfl, it, g, rfl, h1, h2, h3, h4⟩)⟩
  generalize hnn : l.length = n at *
  have HC := Lib.hid hc
  have HFR := Lib.hid hfr
  clear hc h hnn hfr hl hG
  go_enter Tryz.func107, Tryz.ntmps107
  go_wp2_with fail
  have HK0 := Lib.hid ((Keep.refl (fun _ => False) w).alloc (.map #[] 0))
  have HS0 := Lib.hid (SetAt.made w)
  go_loopg [12] (n + 1) (fun gk i wr => ∃ (k : Nat) (ks : List Int), i = .int .i64 (k : Int) ∧ k + gk = n + 1 ∧ k ≤ n ∧ SetAt wr w.heap.size ks ∧ Keep (fun _ => False) w wr)
  case atStart => exact ⟨0, [], rfl, by omega, by omega, HS0.out, HK0.out⟩
  case round =>
    obtain ⟨k, ks, rfl, hgk, hkn, hs, hk⟩ := hrel
    clear HK0 HS0
    have HS := Lib.hid hs
    have HK := Lib.hid hk
    have HGK := Lib.hid hgk
    clear hs hk hgk
    by_cases hlt : k < n
    · obtain ⟨b, off, u, rfl, hu, _, hcc⟩ := HC.out k hlt
      have c0 := hcc _ _ HK.out (fun _ h => h.elim)
      obtain ⟨m, hfm⟩ := HFR.out u (List.mem_of_getElem? hu)
      have HFM := Lib.hid hfm
      clear hcc hu hfm
      go_upto_region 5 with fail; go_cut [8] from 16 to 22 (fun tv wx => FromAt wr wx tv m); case first => (go_region_with (first | (((with_reducible refine (ID_spec _ _).mono ?_); rintro e w3 ⟨rfl, rfl⟩)) | (((with_reducible refine (HFM.out _ (HK.out.drew)).mono ?_); rintro e w3 ⟨tv, rfl, hto⟩))); all_goals (go_wp2_with fail); all_goals go_meet; all_goals exact FromAt.undrew hto)
      obtain ⟨it, g, rfl, hi, h1, h2, hk2⟩ := hcut
      have hs2 := HS.out.keep hk2 (fun h => h)
      have hsl := HS.out.lt
      have HI := Lib.hid hi
      have HS2 := Lib.hid hs2
      have HK2 := Lib.hid (HK.out.trans hk2 (fun _ _ h => h))
      have hws := HK.out.size
      clear hi hk2 hs2 HS HK
      generalize gk = go at *
      go_wp2_with fail
      go_loopg [] (m.length + 1) (fun gk2 wr => ∃ (j : Nat) (ks : List Int), j + gk2 = m.length + 1 ∧ j ≤ m.length ∧ Iter wr it g (m.map nodeV) j ∧ SetAt wr w.heap.size ks ∧ Keep (fun _ => False) w wr)
      case atStart => exact ⟨0, ks, by omega, by omega, HI.out, HS2.out, HK2.out⟩
      case round =>
        clear HI HS2 HK2
        obtain ⟨j, ks, hgk2, hjm, hi, hs, hk⟩ := hrel
        have HI := Lib.hid hi
        have HS := Lib.hid hs
        have HK := Lib.hid hk
        have HGK2 := Lib.hid hgk2
        clear hi hs hk hgk2
        by_cases hjt : j < m.length
        · obtain ⟨v, hv⟩ : ∃ v, m[j]? = some v := ⟨_, List.getElem?_eq_getElem hjt⟩
          have HV := Lib.hid hv
          clear hv
          go_wp2_with (first
            | (((with_reducible refine (Next_true HI.out hjt).mono ?_); rintro e w2 ⟨rfl, hi2, hk2, hs2⟩); have HI2 := Lib.hid hi2; have HS2 := Lib.hid (HS.out.keep hk2 (by omega)); have HK2 := Lib.hid (HK.out.trans hk2 (fun b hb h => by omega)); clear hi2 hk2 hs2)
            | (((with_reducible refine (Node_at HI2.out HV.out).mono ?_); rintro e w3 ⟨rfl, q, rfl⟩))
            | (((with_reducible refine (ID_spec _ _).mono ?_); rintro e w3 ⟨rfl, rfl⟩))
            | (((with_reducible refine (AddL_spec (HS2.out.keep ((Keep.refl (fun _ => False) w2).drewN q) (fun h => h)) _).mono ?_); rintro e w4 ⟨rfl, h4, hk4, hs4⟩); have HS4 := Lib.hid h4; have HK4 := Lib.hid hk4; clear h4 hk4 hs4))
          go_roundg (gk - 1)
          case measure => have := HGK2.out; omega
          case rel => exact ⟨j + 1, _, by have := HGK2.out; omega, by omega, (HI2.out.keep ((Keep.refl (fun _ => False) w2).drewN q) (fun h => h) (fun h => h)).keep HK4.out (by omega) (by omega), HS4.out, (HK2.out.drewN q).trans HK4.out (fun b hb h => by omega)⟩
        · obtain rfl : j = m.length := by omega
          go_wp2_with (first
            | (((with_reducible refine (Next_false HI.out).mono ?_); rintro e w2 ⟨rfl, hk2, hs2⟩); have HS2 := Lib.hid (HS.out.keep hk2 (by omega)); have HK2 := Lib.hid (HK.out.trans hk2 (fun b hb h => by omega)); clear hk2 hs2))
          go_roundg (go - 1)
          case measure => have := HGK.out; omega
          case rel => exact ⟨k + 1, ks, by go_num, by have := HGK.out; omega, by omega, HS2.out, HK2.out⟩
    · obtain rfl : k = n := by omega
      go_wp2_with (first
        | (((with_reducible refine (CountL_spec HS.out).mono ?_); rintro e w3 ⟨rfl, rfl⟩)))
      go_ret
      exact ⟨_, rfl, HK.out⟩
end Go.Proofs.YtdaccgelmcmfjaaGreatDoor
end
