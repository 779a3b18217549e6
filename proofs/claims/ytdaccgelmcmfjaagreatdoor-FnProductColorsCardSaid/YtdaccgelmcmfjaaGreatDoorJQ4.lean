/- The colours that some nodes have (coloring.colorsOf). -/
import Derived.Test.YtdaccgelmcmfjaaGreatDoorJQ1
import Derived.Defers
set_option linter.all false
section
namespace Go.Proofs.YtdaccgelmcmfjaaGreatDoor
open Go.RowKit Go.V
def ColsOf (C : PC) (l : List Int) (ks : List Int) : Prop := ∀ x, x ∈ ks ↔ ∃ v ∈ l, ∃ c : Nat, cget C v = some c ∧ x = (c : Int)
theorem ColsOf.nil (C : PC) (l : List Int) : ColsOf C (l.take 0) [] := fun x => by simp
theorem ColsOf.skip {C : PC} {l ks : List Int} {j : Nat} {v : Int} (h : ColsOf C (l.take j) ks) (hv : l[j]? = some v) (hc : cget C v = none) : ColsOf C (l.take (j + 1)) ks := fun x => by
  rw [h x, List.take_add_one, hv]
  constructor
  · rintro ⟨u, hu, r⟩; exact ⟨u, List.mem_append_left _ hu, r⟩
  · rintro ⟨u, hu, c, h1, h2⟩
    rcases List.mem_append.1 hu with hu | hu
    · exact ⟨u, hu, c, h1, h2⟩
    · simp at hu; subst hu; rw [hc] at h1; cases h1
theorem ColsOf.add {C : PC} {l ks : List Int} {j : Nat} {v : Int} {c : Nat} (h : ColsOf C (l.take j) ks) (hv : l[j]? = some v) (hc : cget C v = some c) : ColsOf C (l.take (j + 1)) (sadd ks (c : Int)) := fun x => by
  rw [mem_sadd, h x, List.take_add_one, hv]
  constructor
  · rintro (⟨u, hu, r⟩ | rfl)
    · exact ⟨u, List.mem_append_left _ hu, r⟩
    · exact ⟨v, by simp, c, hc, rfl⟩
  · rintro ⟨u, hu, c', h1, h2⟩
    rcases List.mem_append.1 hu with hu | hu
    · exact .inl ⟨u, hu, c', h1, h2⟩
    · simp at hu; subst hu; rw [hc] at h1; cases h1; exact .inr h2
set_option maxHeartbeats 4000000 in
set_option maxRecDepth 20000 in
theorem colorsOf_spec {w : World} {it g cb : Nat} {l : List Int} {C : PC} (hi : Iter w it g (l.map nodeV) 0) (hc : ColAt w cb C) (hit : it ≠ cb) (hlen : l.length ≤ 1000000) :
    Calls Tryz.prog 100 #[.iface 284 (.pointer (some ⟨it, 0, none⟩)), .map (some cb)] w fun e w' => ∃ m ks, e = .returned (.map (some m)) ∧ w.heap.size ≤ m ∧ SetAt w' m ks ∧ ColsOf C l ks ∧ Keep (fun b => b = it) w w' := by
  have hmm := @run_makeMapN Tryz.prog _ _ _ Tryz.underlying191
  have hL := Len_spec hi (Nat.zero_le _)
  have HL := Lib.hid hL
  have HI := Lib.hid hi
  have HC := Lib.hid hc
  have l1 := hi.lt
  have l2 := hi.lt'
  have l3 := hc.lt
  clear hi hc hL
  go_enter Tryz.func100, Tryz.ntmps100
  go_wp2_with (first | (((with_reducible refine (HL.out).mono ?_); rintro e w1 ⟨rfl, q, rfl⟩)))
  have hk0 := ((Keep.refl (fun _ => False) w).drewN q).alloc (.map #[] 0)
  have hs0 : SetAt ((w.drewN q).alloc (.map #[] 0)) w.heap.size [] := SetAt.made (w.drewN q)
  have HI0 := Lib.hid (HI.out.keep hk0 (fun h => h) (fun h => h))
  have HS0 := Lib.hid hs0
  have HK0 := Lib.hid (hk0.mono (T := fun b => b = it) (fun _ _ h => h.elim))
  clear hs0 hk0 HI HL
  go_loopg [] (l.length + 1) (fun gk wr => ∃ j ks, j + gk = l.length + 1 ∧ j ≤ l.length ∧ Iter wr it g (l.map nodeV) j ∧ SetAt wr w.heap.size ks ∧ ColsOf C (l.take j) ks ∧ Keep (fun b => b = it) w wr)
  case atStart => exact ⟨0, [], by omega, by omega, HI0.out, HS0.out, ColsOf.nil C l, HK0.out⟩
  case round =>
    obtain ⟨j, ks, hgk, hjl, hi, hs, hcs, hk⟩ := hrel
    clear HI0 HS0 HK0
    have HI := Lib.hid hi
    have HS := Lib.hid hs
    have HK := Lib.hid hk
    have HGK := Lib.hid hgk
    have HCS := Lib.hid hcs
    clear hi hs hk hgk hcs
    by_cases hlt : j < l.length
    · obtain ⟨v, hv⟩ : ∃ v, l[j]? = some v := ⟨_, List.getElem?_eq_getElem hlt⟩
      have HV := Lib.hid hv
      clear hv
      cases hcv : cget C v with
      | none =>
        have hg : kget (ckv C) v = none := by rw [kget_ckv, hcv]; rfl
        have HG2 := Lib.hid hg
        have HCV := Lib.hid hcv
        clear hg hcv
        go_wp2_with (first
          | (((with_reducible refine (Next_true HI.out hlt).mono ?_); rintro e w2 ⟨rfl, hi2, hk2, hs2⟩); have hS2 := HS.out.keep hk2 (by omega); have hK2 := HK.out.trans hk2 (fun b hb h => h); have HI2 := Lib.hid hi2; have HS2 := Lib.hid hS2; have HK2 := Lib.hid hK2; clear hi2 hk2 hS2 hK2 hs2)
          | (((with_reducible refine (Node_at HI2.out HV.out).mono ?_); rintro e w3 ⟨rfl, q, rfl⟩))
          | (((with_reducible refine (ID_spec _ _).mono ?_); rintro e w3 ⟨rfl, rfl⟩))
          | (at_lookup; refine wpList_lookup_kv rfl _ _ _ _ rfl 2 3 Tryz.underlying83 Tryz.underlying2 (.int .i64 0) zeroI cb _ v rfl rfl (HC.out.keep (HK2.out.drewN q) (fun e => hit e.symm)) ?_; rw [HG2.out]))
        go_roundg (gk - 1)
        case measure => have := HGK.out; omega
        case rel => exact ⟨j + 1, ks, by have := HGK.out; omega, by omega, HI2.out.keep ((Keep.refl (fun _ => False) w2).drewN q) (fun h => h) (fun h => h), HS2.out.keep ((Keep.refl (fun _ => False) w2).drewN q) (fun h => h), HCS.out.skip HV.out HCV.out, HK2.out.drewN q⟩
      | some c =>
        have hg : kget (ckv C) v = some (.int .i64 (c : Int)) := by rw [kget_ckv, hcv]; rfl
        have HG2 := Lib.hid hg
        have HCV := Lib.hid hcv
        clear hg hcv
        go_wp2_with (first
          | (((with_reducible refine (Next_true HI.out hlt).mono ?_); rintro e w2 ⟨rfl, hi2, hk2, hs2⟩); have hS2 := HS.out.keep hk2 (by omega); have hK2 := HK.out.trans hk2 (fun b hb h => h); have HI2 := Lib.hid hi2; have HS2 := Lib.hid hS2; have HK2 := Lib.hid hK2; clear hi2 hk2 hS2 hK2 hs2)
          | (((with_reducible refine (Node_at HI2.out HV.out).mono ?_); rintro e w3 ⟨rfl, q, rfl⟩))
          | (((with_reducible refine (ID_spec _ _).mono ?_); rintro e w3 ⟨rfl, rfl⟩))
          | (at_lookup; refine wpList_lookup_kv rfl _ _ _ _ rfl 2 3 Tryz.underlying83 Tryz.underlying2 (.int .i64 0) zeroI cb _ v rfl rfl (HC.out.keep (HK2.out.drewN q) (fun e => hit e.symm)) ?_; rw [HG2.out])
          | (((with_reducible refine (AddI_spec (HS2.out.keep ((Keep.refl (fun _ => False) w2).drewN q) (fun h => h)) _).mono ?_); rintro e w4 ⟨rfl, h4, hk4, hs4⟩); have HS4 := Lib.hid h4; have HK4 := Lib.hid hk4; clear h4 hk4 hs4))
        go_roundg (gk - 1)
        case measure => have := HGK.out; omega
        case rel => exact ⟨j + 1, _, by have := HGK.out; omega, by omega, (HI2.out.keep ((Keep.refl (fun _ => False) w2).drewN q) (fun h => h) (fun h => h)).keep HK4.out (by omega) (by omega), HS4.out, HCS.out.add HV.out HCV.out, (HK2.out.drewN q).trans HK4.out (fun b hb h => by omega)⟩
    · obtain rfl : j = l.length := by omega
      go_wp2_with (first
        | (((with_reducible refine (Next_false HI.out).mono ?_); rintro e w2 ⟨rfl, hk2, hs2⟩); have hS2 := HS.out.keep hk2 (by omega); have hK2 := HK.out.trans hk2 (fun b hb h => h); have HS2 := Lib.hid hS2; have HK2 := Lib.hid hK2; clear hk2 hS2 hK2 hs2))
      go_ret
      exact ⟨_, ks, rfl, Nat.le_refl _, HS2.out, by have := HCS.out; rwa [List.take_length] at this, HK2.out⟩
end Go.Proofs.YtdaccgelmcmfjaaGreatDoor
end
/- A partial colouring's two marks: color, uncolor (deferred), newDsaturColoring. -/
section
namespace Go.Proofs.YtdaccgelmcmfjaaGreatDoor
open Go.RowKit Go.V
abbrev candV (cb ub : Nat) : Value := .agg #[.map (some cb), .map (some ub)]
set_option maxHeartbeats 4000000 in
set_option maxRecDepth 20000 in
theorem color_spec {w : World} {cb ub : Nat} {U : List Int} {v : Int} (hu : SetAt w ub U) (hv : v ∈ U) :
    Calls Tryz.prog 110 #[candV cb ub, .int .i64 v] w fun e w' => e = .returned (.tuple #[]) ∧ SetAt w' ub (sdel U v) ∧ Keep (fun b => b = ub) w w' := by
  have hl := hu.lt
  have hb : U.contains v = true := by simpa using hv
  have HH := fun (W : World) (hk : Keep (fun _ => False) w W) => HasL_spec (hu.keep hk (fun h => h)) v
  rw [hb] at HH
  have HR := fun (W : World) (hk : Keep (fun _ => False) w W) => RemL_spec (hu.keep hk (fun h => h)) v
  have HH' := Lib.hid HH
  have HR' := Lib.hid HR
  clear HH HR hb hu hv
  have hc : ∀ W, Keep (fun _ => False) (w.alloc (.cells #[.map (some cb), .map (some ub)] 145 (0, 0))) W → W.cell? ⟨w.heap.size, 0, none⟩ = some (.map (some cb)) ∧ W.cell? ⟨w.heap.size, 1, none⟩ = some (.map (some ub)) := fun W hk => by
    have := hk.get (heap_new w _) (fun h => h)
    exact ⟨by rw [cell_of this]; rfl, by rw [cell_of this]; rfl⟩
  have HC := Lib.hid hc
  clear hc
  go_enter Tryz.func110, Tryz.ntmps110
  go_wp2_with (first
    | (((with_reducible refine (HH'.out _ (by repeat first | exact Keep.refl _ _ | assumption | apply Keep.alloc | apply Keep.drewN | apply Keep.drew | (refine Keep.setCell ?_ _ (fun h => absurd h (Nat.lt_irrefl _))))).mono ?_); rintro e w1 ⟨rfl, hk1⟩); obtain ⟨c0, c1⟩ := HC.out _ hk1; have HK1 := Lib.hid (Keep.trans ((Keep.refl (fun _ => False) w).alloc (.cells #[.map (some cb), .map (some ub)] 145 (0, 0))) hk1 (fun _ _ h => h)); clear hk1)
    | (((with_reducible refine (HR'.out _ HK1.out).mono ?_); rintro e w2 ⟨rfl, h2, _, hk2, hs2⟩)))
  go_end0
  exact ⟨rfl, h2, (HK1.out.mono (T := fun b => b = ub) (fun _ _ h => h.elim)).trans hk2 (fun b _ h => h)⟩
set_option maxHeartbeats 4000000 in
set_option maxRecDepth 20000 in
theorem uncolor_spec {w : World} {cb ub : Nat} {C : PC} {U : List Int} {v : Int} {x : Nat} (hc : ColAt w cb C) (hu : SetAt w ub U) (hne : cb ≠ ub) (hv : cget C v = some x) (u : FrameMode) :
    CallsD Tryz.prog 111 #[candV cb ub, .int .i64 v] u w fun e u' w' => u' = u ∧ (e = .returned (.tuple #[]) ∧ ColAt w' cb (cdel C v) ∧ SetAt w' ub (sadd U v) ∧ Keep (fun b => b = cb ∨ b = ub) w w') := by
  have l1 := hc.lt
  have l2 := hu.lt
  have hg : kget (ckv C) v = some (.int .i64 (x : Int)) := by rw [kget_ckv, hv]; rfl
  have HG := Lib.hid hg
  have HC0 := Lib.hid hc
  have HU0 := Lib.hid hu
  have hcc : ∀ S W, Keep S (w.alloc (.cells #[.map (some cb), .map (some ub)] 145 (0, 0))) W → ¬ S w.heap.size → W.cell? ⟨w.heap.size, 0, none⟩ = some (.map (some cb)) ∧ W.cell? ⟨w.heap.size, 1, none⟩ = some (.map (some ub)) := fun S W hk hS => by
    have := hk.get (heap_new w _) hS
    exact ⟨by rw [cell_of this]; rfl, by rw [cell_of this]; rfl⟩
  have HCC := Lib.hid hcc
  obtain ⟨c0, c1⟩ := hcc _ _ (Keep.refl (fun _ => False) _) (fun h => h)
  clear hg hv hc hu hcc
  go_enter_d Tryz.func111, Tryz.ntmps111
  go_wp2_with (first
    | (at_lookup; refine wpList_lookup_kv rfl _ _ _ _ rfl 2 3 Tryz.underlying83 Tryz.underlying2 (.int .i64 0) zeroI cb _ v rfl rfl (HC0.out.keepF (by repeat first | exact Keep.refl _ _ | assumption | apply Keep.alloc | apply Keep.drewN | apply Keep.drew | (refine Keep.setCell ?_ _ (fun h => absurd h (Nat.lt_irrefl _))))) ?_; rw [HG.out])
    | (at_delete; refine wpList_delete_kv rfl _ _ _ _ rfl 2 3 Tryz.underlying83 Tryz.underlying2 cb _ v rfl rfl (HC0.out.keepF (by repeat first | exact Keep.refl _ _ | assumption | apply Keep.alloc | apply Keep.drewN | apply Keep.drew | (refine Keep.setCell ?_ _ (fun h => absurd h (Nat.lt_irrefl _))))) ?_; intro w1 h1 h4 h2 h3; rw [kdel_ckv] at h1; obtain ⟨c2, c3⟩ := HCC.out _ _ h2 (by omega); have H1 := Lib.hid h1; have HK1 := Lib.hid (((Keep.refl (fun b => b = cb) w).alloc (.cells #[.map (some cb), .map (some ub)] 145 (0, 0))).trans h2 (fun _ _ h => h)); clear h1 h4 h2 h3)
    | (((with_reducible refine (AddL_spec (HU0.out.keep HK1.out (fun e => hne e.symm)) _).mono ?_); rintro e w2 ⟨rfl, h5, h6, h7⟩)))
  refine (AddL_spec (HU0.out.keep HK1.out (fun e => hne e.symm)) _).mono ?_
  rintro e w2 ⟨rfl, h5, h6, h7⟩
  go_wp2_with fail
  go_end0
  exact ⟨rfl, ColAt.keep H1.out h6 hne, h5, (HK1.out.mono (T := fun b => b = cb ∨ b = ub) (fun _ _ h => .inl h)).trans h6 (fun _ _ h => .inr h)⟩
end Go.Proofs.YtdaccgelmcmfjaaGreatDoor
end
/- coloring.newDsaturColoring, over cells of nodes. -/
section
namespace Go.Proofs.YtdaccgelmcmfjaaGreatDoor
open Go.RowKit Go.V
set_option maxHeartbeats 4000000 in
set_option maxRecDepth 20000 in
theorem newDsat_at {w : World} {b off cap : Nat} {l : List Int} {cb : Nat} {C : PC} (h : Cells w b off (l.map nodeV)) (hcb : ColAt w cb C) (hlen : l.length ≤ 1000000) :
    Calls Tryz.prog 56 #[.slice (some ⟨b, off, none⟩) l.length cap, .map (some cb)] w fun e w' => ∃ ub U, e = .returned (candV cb ub) ∧ w.heap.size ≤ ub ∧ SetAt w' ub U ∧ (∀ x, x ∈ U ↔ x ∈ l ∧ cget C x = none) ∧ Keep (fun _ => False) w w' := by
  have hmm := @run_makeMap Tryz.prog
  have hc : ∀ k, k < l.length → ∃ u, l[k]? = some u ∧ ∀ W, Keep (fun _ => False) w W → W.cell? ⟨b, off + k, none⟩ = some (nodeV u) := fun k hk => ⟨_, List.getElem?_eq_getElem hk, fun W hk' => by
    have := h k (nodeV l[k]) (by rw [List.getElem?_map, List.getElem?_eq_getElem hk]; rfl)
    rw [hk'.cell (a := ⟨b, off + k, none⟩) (World.block_lt_of_cell? _ _ this) (fun h => h)]; exact this⟩
  have hstep : ∀ j u U, l[j]? = some u → (∀ x, x ∈ U ↔ x ∈ l.take j ∧ cget C x = none) → (cget C u = none → ∀ x, x ∈ sadd U u ↔ x ∈ l.take (j + 1) ∧ cget C x = none) ∧ (∀ y, cget C u = some y → ∀ x, x ∈ U ↔ x ∈ l.take (j + 1) ∧ cget C x = none) := by
    intro j u U hu hU
    have ht : l.take (j + 1) = l.take j ++ [u] := by rw [List.take_add_one, hu]; rfl
    refine ⟨fun hn x => ?_, fun y hy x => ?_⟩
    · rw [mem_sadd, hU x, ht]
      simp only [List.mem_append, List.mem_singleton]
      constructor
      · rintro (⟨h1, h2⟩ | rfl)
        · exact ⟨.inl h1, h2⟩
        · exact ⟨.inr rfl, hn⟩
      · rintro ⟨h1 | rfl, h2⟩
        · exact .inl ⟨h1, h2⟩
        · exact .inr rfl
    · rw [hU x, ht]
      simp only [List.mem_append, List.mem_singleton]
      constructor
      · rintro ⟨h1, h2⟩; exact ⟨.inl h1, h2⟩
      · rintro ⟨h1 | rfl, h2⟩
        · exact ⟨h1, h2⟩
        · rw [hy] at h2; cases h2
  have hall : l.take l.length = l := List.take_length
  have HALL := Lib.hid hall
  have HST := Lib.hid hstep
  have HCB := Lib.hid hcb
  have l1 := hcb.lt
  generalize hnn : l.length = n at *
  have HC := Lib.hid hc
  clear hc h hnn hcb hall hstep
  go_enter Tryz.func56, Tryz.ntmps56
  go_wp2_with fail
  have hk0 := ((Keep.refl (fun _ => False) w).alloc (.cells #[.map none, .map none] 145 (0, 0))).alloc (.map #[] 0)
  have hs0 : SetAt ((w.alloc (.cells #[.map none, .map none] 145 (0, 0))).alloc (.map #[] 0)) (w.heap.size + 1) [] := by have := SetAt.made (w.alloc (.cells #[.map none, .map none] 145 (0, 0))); simpa using this
  have hr0 : ((w.alloc (.cells #[.map none, .map none] 145 (0, 0))).alloc (.map #[] 0)).heap[w.heap.size]? = some (.cells #[.map none, .map none] 145 (0, 0)) := (heap_old (by simp)).trans (heap_new w _)
  have HK0 := Lib.hid hk0
  have HS0 := Lib.hid hs0
  have HR0 := Lib.hid hr0
  clear hk0 hs0 hr0
  go_loopw [14] (fun i wr => ∃ (k : Nat) (U : List Int), i = .int .i64 (k : Int) ∧ k ≤ n ∧ SetAt wr (w.heap.size + 1) U ∧ (∀ x, x ∈ U ↔ x ∈ l.take k ∧ cget C x = none) ∧ wr.heap[w.heap.size]? = some (.cells #[.map none, .map none] 145 (0, 0)) ∧ Keep (fun _ => False) w wr) (fun i _ => n - (intOf i).toNat)
  case atStart => exact ⟨0, [], rfl, Nat.zero_le _, HS0.out, fun x => by simp, HR0.out, HK0.out⟩
  case round =>
    obtain ⟨k, U, rfl, hkn, hs, hU, hr, hk⟩ := hrel
    clear HK0 HS0 HR0
    have HS := Lib.hid hs
    have HU := Lib.hid hU
    have HR := Lib.hid hr
    have HK := Lib.hid hk
    clear hs hU hr hk
    by_cases hlt : k < n
    · obtain ⟨u, hu, hcc⟩ := HC.out k hlt
      have c0 := hcc _ HK.out
      have HUU := Lib.hid hu
      clear hcc hu
      cases hcv : cget C u with
      | none =>
        have hg : kget (ckv C) u = none := by rw [kget_ckv, hcv]; rfl
        have HG := Lib.hid hg
        have HN := Lib.hid hcv
        clear hg hcv
        go_wp2_with (first
          | (((with_reducible refine (ID_spec _ _).mono ?_); rintro e w3 ⟨rfl, rfl⟩))
          | (at_lookup; refine wpList_lookup_kv rfl _ _ _ _ rfl 2 3 Tryz.underlying83 Tryz.underlying2 (.int .i64 0) zeroI cb _ u rfl rfl (HCB.out.keepF HK.out) ?_; rw [HG.out])
          | (((with_reducible refine (AddL_spec HS.out _).mono ?_); rintro e w2 ⟨rfl, h5, h6, h7⟩); have H5 := Lib.hid h5; have H6 := Lib.hid h6; clear h5 h6 h7))
        go_roundw
        case rel => exact ⟨k + 1, _, by go_num, by omega, H5.out, (HST.out k u U HUU.out HU.out).1 HN.out, H6.out.get HR.out (by omega), HK.out.trans H6.out (fun b hb h => by omega)⟩
        case measure => simp [intOf]; omega
      | some y =>
        have hg : kget (ckv C) u = some (.int .i64 (y : Int)) := by rw [kget_ckv, hcv]; rfl
        have HG := Lib.hid hg
        have HN := Lib.hid hcv
        clear hg hcv
        go_wp2_with (first
          | (((with_reducible refine (ID_spec _ _).mono ?_); rintro e w3 ⟨rfl, rfl⟩))
          | (at_lookup; refine wpList_lookup_kv rfl _ _ _ _ rfl 2 3 Tryz.underlying83 Tryz.underlying2 (.int .i64 0) zeroI cb _ u rfl rfl (HCB.out.keepF HK.out) ?_; rw [HG.out]))
        go_roundw
        case rel => exact ⟨k + 1, U, by go_num, by omega, HS.out, (HST.out k u U HUU.out HU.out).2 y HN.out, HR.out, HK.out⟩
        case measure => simp [intOf]; omega
    · obtain rfl : k = n := by omega
      have c0 := cell_of HR.out 0
      have c1 := cell_of HR.out 1
      have f0 := free_of HR.out
      simp only [List.getElem?_toArray, List.getElem?_cons_zero, List.getElem?_cons_succ] at c0 c1
      have kk := fun x y => two_cells HR.out x y
      have kz := fun x y => (kk x y).2.2.1
      have kw := fun x y => (kk x y).2.2.2
      have ky := fun x y => (kk x y).2.1
      clear kk
      go_wp2_with fail
      have kk := fun x y => two_cells HR.out x y
      (try simp only [Exit.inBlock, Exit.then])
      refine bodyPost_ret (by simp [results, Tryz.results56, go_sem, (kk _ _).2.2.1, (kk _ _).2.2.2]; try rfl) rfl ?_
      have hK : Keep (fun b => b = w.heap.size) wr ((wr.setCell ⟨w.heap.size, 0, none⟩ (.map (some cb))).setCell ⟨w.heap.size, 1, none⟩ (.map (some (w.heap.size + 1)))) := ((Keep.refl (fun b => b = w.heap.size) wr).setCell (a := ⟨w.heap.size, 0, none⟩) _ (fun _ => rfl)).setCell (a := ⟨w.heap.size, 1, none⟩) _ (fun _ => rfl)
      exact ⟨_, U, rfl, Nat.le_succ _, HS.out.keep hK (by omega), fun x => by rw [HU.out x, HALL.out], HK.out.trans hK (fun b hb h => by omega)⟩
end Go.Proofs.YtdaccgelmcmfjaaGreatDoor
end
