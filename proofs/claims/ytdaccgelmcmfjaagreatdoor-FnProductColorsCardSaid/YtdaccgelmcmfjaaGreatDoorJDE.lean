/- The iterator as an order; coloring.newPartial, Dsatur, SanSegundo from no colours. -/
import Derived.Test.YtdaccgelmcmfjaaGreatDoorJDA
set_option linter.all false
section
namespace Go.Proofs.YtdaccgelmcmfjaaGreatDoor
open Go.RowKit Go.V
theorem GX.start {fH : FuncId} {w : World} {s : SG} {pb cb base : Nat} {wk : Value} (hs : Sat w s pb (-1) (-1) .nilFunc (.map (some cb)) wk) (ha : AdjW w s base w.heap.size) (hd : DegN w s) (hc : ColAt w cb []) (l2 : s.nb < base) (l3 : s.ib < base) (l4 : s.db < base) (l5 : s.ab < base) (l6 : cb < base) (l7 : base ≤ w.heap.size) (ne : cb ≠ s.ib ∧ cb ≠ s.nb) :
    GX fH wk (w.setCell ⟨s.sb, 2, none⟩ (heurX fH s)) s pb cb base w.heap.size (-1) (-1) [] := by
  have hk : Keep (fun b => b = s.sb) w (w.setCell ⟨s.sb, 2, none⟩ (heurX fH s)) := (Keep.refl _ _).setCell (a := ⟨s.sb, 2, none⟩) _ (fun _ => rfl)
  have hib : s.ib ≠ s.sb := by obtain ⟨IX, b, _⟩ := hs.idx; exact MapAt.ne_cells b hs.head
  refine ⟨⟨by rw [heapV_setCell hs.head]; rfl, hs.nodes.keep hk hs.n1, hs.small, ?_, ?_, ?_, hs.n1, hs.n2, hs.n3, hs.n4, hs.n5, Nat.lt_of_lt_of_le hs.nbl hk.size⟩, fun i hi => ?_, fun i hi => ?_, hc.keep hk (hs.colNe hc).1, hs.sb_lt, l2, l3, l4, l5, l6, l7, hk.size, ne⟩
  · obtain ⟨IX, x, y⟩ := hs.idx; exact ⟨IX, x.keep hk hib, y⟩
  · obtain ⟨cs, x, y⟩ := hs.deg; exact ⟨cs, hk.get x hs.n2, y⟩
  · obtain ⟨cs, x, y⟩ := hs.adj; exact ⟨cs, hk.get x hs.n3, y⟩
  · obtain ⟨b, ks, x, y, z⟩ := ha i hi
    exact ⟨b, ks, by rw [hk.cell (a := ⟨s.ab, i, none⟩) (World.block_lt_of_cell? _ _ x) hs.n3]; exact x, y.keep hk (show ¬ b = s.sb from MapAt.ne_cells y hs.head), z⟩
  · obtain ⟨d, x⟩ := hd i hi
    exact ⟨d, by rw [hk.cell (a := ⟨s.db, i, none⟩) (World.block_lt_of_cell? _ _ x) hs.n2]; exact x⟩
theorem some_left {l : List Int} {C : PC} (hn : l.Nodup) (h : C.length < l.length) : ∃ v ∈ l, cget C v = none := by
  refine Classical.byContradiction fun hne => ?_
  have hall : ∀ u ∈ l, u ∈ C.map (·.1) := fun u hu => Classical.byContradiction fun hm => hne ⟨u, hu, cget_none.2 hm⟩
  have := nodup_le hn hall
  rw [List.length_map] at this
  omega
def Heur (fH : FuncId) (B : Nat) (G : PG) (s : SG) (pb cb base top : Nat) (WK : Nat → Value → Prop) : Prop :=
  ∀ W j C cnt curr wk, 0 < j → j < s.l.length → C.length = j → (∀ u ∈ C.map (·.1), u ∈ G.ids) → WK j wk → GX fH wk W s pb cb base top cnt curr C → Plain B W pb G →
    Calls Tryz.prog fH #[.pointer (some ⟨s.sb, 3, none⟩)] W fun e w' => ∃ (i2 : Nat) (u2 : Int) (wk' : Value), e = .returned (.int .i64 (i2 : Int)) ∧ s.l[i2]? = some u2 ∧ cget C u2 = none ∧ GX fH wk' w' s pb cb base top cnt curr C ∧ WK (j + 1) wk' ∧ Keep (fun b => b = s.sb) W w'
theorem heur_dsatur {B : Nat} {G : PG} {s : SG} {pb cb base top : Nat} (hl : ∀ u, u ∈ s.l ↔ u ∈ G.ids) (hn : s.l.Nodup) : Heur 54 B G s pb cb base top (fun _ _ => True) := fun W j C cnt curr wk h0 hj hC _ _ hg hP => by
  refine (dsatur_spec hP hg.sat hg.col (fun u hu => (hl u).1 hu)).mono ?_
  rintro e w' ⟨r, rfl, hor, hk'⟩
  rcases hor with ⟨_, hall⟩ | ⟨i2, u2, rfl, h1, h2⟩
  · obtain ⟨v, hv, hv2⟩ := some_left hn (C := C) (by omega)
    have := hall v hv
    rw [hv2] at this; cases this
  · exact ⟨i2, u2, wk, rfl, h1, h2, hg.keepF hk', trivial, hk'.mono (fun _ _ h => h.elim)⟩
theorem heur_pass {B : Nat} {G : PG} {s : SG} {pb cb base top : Nat} (hB : B ≤ s.sb) (hl : ∀ u, u ∈ s.l ↔ u ∈ G.ids) (hn : s.l.Nodup) (h2 : s.l.length = 2) : Heur 156 B G s pb cb base top (fun j wk => j = 1 → wk = .slice none 0 0) := fun W j C cnt curr wk h0 hj hC hm hw hg hP => by
  obtain rfl : j = 1 := by omega
  obtain rfl := hw rfl
  obtain ⟨v, hv, hv2⟩ := some_left hn (C := C) (by omega)
  obtain ⟨i2, hi2⟩ := List.mem_iff_getElem?.1 hv
  refine (pass_spec hg hP hB (fun u hu => (hl u).1 hu) hi2 hv2 fun i u hu hne => ?_).mono ?_
  · obtain ⟨⟨k, c⟩, rfl⟩ := List.length_eq_one_iff.1 hC
    have hkl : k ∈ s.l := (hl k).2 (hm k (by simp))
    obtain ⟨ik, hik⟩ := List.mem_iff_getElem?.1 hkl
    have hki : ik ≠ i2 := by
      rintro rfl
      rw [hik] at hi2; cases hi2
      simp [cget] at hv2
    have l1 := (List.getElem?_eq_some_iff.1 hik).1
    have l2 := (List.getElem?_eq_some_iff.1 hi2).1
    have l3 := (List.getElem?_eq_some_iff.1 hu).1
    obtain rfl : i = ik := by omega
    rw [hik] at hu; cases hu
    exact ⟨c, by simp [cget]⟩
  · rintro e w' ⟨wk', rfl, q1, q2⟩
    exact ⟨i2, v, wk', rfl, hi2, hv2, q1, fun h => absurd h (by decide), q2⟩
def SX (fH : FuncId) (wk0 : Value) (s : SG) (pb cb base top : Nat) (WK : Nat → Value → Prop) (W : World) (j : Nat) (C : PC) : Prop :=
  C.length = j ∧ ((j = 0 ∧ C = [] ∧ GX fH wk0 W s pb cb base top (-1) (-1) []) ∨ (0 < j ∧ ∃ (i : Nat) (u : Int) (c : Nat) (wk : Value), GX fH wk W s pb cb base top ((j - 1 : Nat) : Int) (i : Int) C ∧ s.l[i]? = some u ∧ cget C u = some c ∧ WK j wk))
def NX (fH : FuncId) (s : SG) (pb cb base top : Nat) (WK : Nat → Value → Prop) (W : World) (j : Nat) (C : PC) (u : Int) : Prop :=
  C.length = j ∧ cget C u = none ∧ ∃ (i : Nat) (wk : Value), GX fH wk W s pb cb base top (j : Int) (i : Int) C ∧ s.l[i]? = some u ∧ WK (j + 1) wk
theorem ordX {fH : FuncId} {wk0 : Value} {B : Nat} {G : PG} {s : SG} {pb cb base top : Nat} {WK : Nat → Value → Prop} (hh : Heur fH B G s pb cb base top WK) (h0 : WK 1 wk0) (hU : UG G) (hl : ∀ u, u ∈ s.l ↔ u ∈ G.ids) (hll : s.l.length = G.ids.length) (hn : 0 < G.ids.length) (hB : B ≤ s.sb ∧ B ≤ base)
    (eH : ∀ args w, (callFunc fH args).run Tryz.prog w = .ok (.enter fH args) w) :
    OrdIs G B cb pb 275 276 (.pointer (some ⟨s.sb, 0, none⟩)) (SX fH wk0 s pb cb base top WK) (NX fH s pb cb base top WK) (fun b => b = s.sb ∨ (base ≤ b ∧ b < top)) where
  next W j C hS hC hj hm hP := by
    rcases hS.2 with ⟨rfl, rfl, hg⟩ | ⟨hj0, i, u, c, wk, hg, hu, hc, hw⟩
    · refine (satNextX_first hg (by omega)).mono ?_
      rintro e w' ⟨i, u, rfl, q1, q2, q3, q4⟩
      exact ⟨u, rfl, (hl u).1 (List.mem_of_getElem? q1), q2, ⟨rfl, q2, i, wk0, q3, q1, h0⟩, q4⟩
    · refine (satNextX_more (m := j - 1) (Y := WK (j + 1)) hg hP hU hl hu hc (by omega) hB eH (fun W' cnt curr hg' hk => hh W' j C cnt curr wk hj0 (by omega) hC hm hw hg' (hP.keep hk (fun b hb => by omega)))).mono ?_
      rintro e w' ⟨wk', hy, i2, u2, rfl, q1, q2, q3, q4⟩
      rw [show j - 1 + 1 = j by omega] at q3
      exact ⟨u2, rfl, (hl u2).1 (List.mem_of_getElem? q1), q2, ⟨hC, q2, i2, wk', q3, q1, hy⟩, q4⟩
  node W j C u h := by
    obtain ⟨_, _, i, wk, hg, hu, _⟩ := h
    exact satNodeX hg hu
  stop W C hS := by
    rcases hS.2 with ⟨h1, _⟩ | ⟨_, i, u, c, wk, hg, _⟩
    · omega
    · refine (satNextX_last hg (by omega)).mono ?_
      rintro e w' ⟨rfl, ⟨cnt, q1⟩, q2⟩
      exact ⟨rfl, q1.col, q2.mono (fun b _ h => .inl h)⟩
  col W j C u h := by
    obtain ⟨_, _, i, wk, hg, _⟩ := h
    exact hg.col
  keep W W' j C u h hk := by
    obtain ⟨h1, h2, i, wk, hg, h3⟩ := h
    exact ⟨h1, h2, i, wk, hg.keepF hk, h3⟩
  put W W' j C u c h hk hc := by
    obtain ⟨h1, h2, i, wk, hg, h3, h4⟩ := h
    exact ⟨by rw [cput_length h2, h1], .inr ⟨Nat.succ_pos j, i, u, c, wk, hg.recol hk hc, h3, by rw [cget_cput, if_pos rfl], h4⟩⟩
  far b hb := by omega
set_option maxHeartbeats 4000000 in
set_option maxRecDepth 20000 in
theorem newPartial_spec (w : World) (gv : Value) : Calls Tryz.prog 155 #[.map none, gv] w fun e w' => e = .returned (.tuple #[.map (some w.heap.size), .bool true]) ∧ w' = w.alloc (.map #[] 0) := by
  have hen := eqlNilM
  have hmm := @run_makeMap Tryz.prog
  go_enter Tryz.func155, Tryz.ntmps155
  go_wp2_with fail
  go_ret2
  exact ⟨rfl, rfl⟩
set_option maxHeartbeats 4000000 in
set_option maxRecDepth 20000 in
theorem colored_spec (w : World) : Calls Tryz.prog 154 #[.slice none 0 0] w fun e w' => e = .returned (.tuple #[.map none, .bool true]) ∧ w' = w := by
  go_enter Tryz.func154, Tryz.ntmps154
  go_wp2_with fail
  go_ret2
  exact ⟨rfl, rfl⟩
end Go.Proofs.YtdaccgelmcmfjaaGreatDoor
end
/- coloring.Dsatur, SanSegundo from no colours. -/
section
namespace Go.Proofs.YtdaccgelmcmfjaaGreatDoor
open Go.RowKit Go.V
def ColPost (w : World) (G : PG) (e : Ending) (w' : World) : Prop :=
  ∃ (k cb : Nat) (C : PC), e = .returned (.tuple #[.int .i64 ((k + 1 : Nat) : Int), .map (some cb), .nilIface]) ∧ Gr G C G.ids.length k ∧ k + 1 ≤ G.ids.length ∧ ColAt w' cb C ∧ Keep (fun _ => False) w w'
set_option maxHeartbeats 8000000 in
set_option maxRecDepth 100000 in
theorem Dsatur_spec {B pb : Nat} {w : World} {G : PG} (hG : Plain B w pb G) (hB : B ≤ w.heap.size) (hU : UG G) (h0 : 0 < G.ids.length) (h16 : G.ids.length ≤ 1000) :
    Calls Tryz.prog 115 #[gV pb, .map none] w (ColPost w G) := by
  unfold ColPost
  have hN := uNodes_spec hG
  have hP : ∀ S W, Keep S w W → (∀ b, S b → B ≤ b) → Plain B W pb G := fun S W hk hs => hG.keep hk hs
  have hsf := storeFn
  have hlen : G.ids.length ≤ 1000 := by omega
  have hnd := PG.ids_nodup hU.ok
  obtain ⟨n, hnn⟩ : ∃ n, n = G.ids.length := ⟨_, rfl⟩
  have HNN := Lib.hid hnn
  have HN := Lib.hid hN
  have HP := Lib.hid hP
  have HU := Lib.hid hU
  have HND := Lib.hid hnd
  have HH16 := Lib.hid h16
  rw [← hnn] at h0 hlen
  clear hN hP hG hU hnd hnn h16
  go_enter Tryz.func115, Tryz.ntmps115
  go_upto_region 7 with (first
    | (((with_reducible refine (HN.out).mono ?_); rintro e w1 ⟨it, g1, rfl, hi1, hl1, hg1, hk1⟩); have HI1 := Lib.hid hi1; have HK1 := Lib.hid hk1; clear hi1 hk1)
    | (((with_reducible refine (Len_spec HI1.out (Nat.zero_le _)).mono ?_); rintro e w2 ⟨rfl, q, rfl⟩); rw [List.length_map, Nat.sub_zero, ← HNN.out])
    | (((with_reducible refine (newPartial_spec _ _).mono ?_); rintro e w3 ⟨rfl, rfl⟩)))
  have hk2 := (HK1.out.drewN q)
  have hi2 := HI1.out.keep ((Keep.refl (fun _ => False) w1).drewN q) (fun h => h) (fun h => h)
  have hl2 : it < (w1.drewN q).heap.size := hi2.lt
  have hg2 : g1 < (w1.drewN q).heap.size := hi2.lt'
  have E2 := Lib.hid (show (w1.drewN q).heap.size = w1.heap.size by simp)
  generalize w1.drewN q = w2 at *
  have HMADE := Lib.hid (show ColAt (w2.alloc (.map #[] 0)) w1.heap.size [] by rw [← E2.out]; exact MapAt.made w2)
  rw [E2.out] at hl2 hg2
  have hka := (Keep.refl (fun _ => False) w2).alloc (.map #[] 0)
  have hby := bySat_spec (cb := w1.heap.size) (HP.out _ _ (hk2.alloc (.map #[] 0)) (fun _ h => h.elim)) (hi2.keep hka (fun h => h) (fun h => h)) (fun u hu => hu) HND.out (by rw [← HNN.out]; exact h0) (by rw [← HNN.out]; exact hlen) HMADE.out (show w1.heap.size ≠ it by omega) (show B ≤ it by omega)
  have HBY := Lib.hid hby
  have HK2 := Lib.hid hk2
  clear hby hka hi2 hk2
  go_upto_region 9 with (first
    | (((with_reducible refine (HBY.out).mono ?_); rintro e w4 ⟨s, base, rfl, hl, hsat, hadj, hdeg, hnb, hsb, hib, hdb, hab, b1, b2, b3, b4, b5, hk4⟩); have c2 : w4.cell? ⟨s.sb, 2, none⟩ = some .nilFunc := (by rw [cell_of hsat.head]; rfl); have f2 := free_of hsat.head 2; have HSAT := Lib.hid hsat; have HADJ := Lib.hid hadj; have HDEG := Lib.hid hdeg; have HK4 := Lib.hid hk4; have HL := Lib.hid hl; have HNB := Lib.hid hnb; have hnbl : s.nb < w1.heap.size := (by omega); rw [show (w2.alloc (.map #[] 0)).heap.size = w1.heap.size + 1 by simp; exact E2.out] at hsb hib hdb hab b4; clear hsat hadj hdeg hk4 hl hnb))
  have hsz3 : (w2.alloc (.map #[] 0)).heap.size = w1.heap.size + 1 := by simp; exact E2.out
  have hw2 : w.heap.size ≤ w1.heap.size := HK1.out.size
  have hcb : ColAt w4 w1.heap.size [] := ColAt.keep HMADE.out HK4.out (show ¬ w1.heap.size = it by omega)
  have hgi := GX.start (fH := 54) HSAT.out HADJ.out HDEG.out hcb (by omega) b1 b2 b3 (by omega) b5 (by omega)
  have hk5 : Keep (fun _ => False) w (w4.setCell ⟨s.sb, 2, none⟩ (heurX 54 s)) := (((HK2.out.alloc (.map #[] 0)).trans HK4.out (fun b hb h => by omega)).setCell (a := ⟨s.sb, 2, none⟩) _ (fun h => by have h' : s.sb < w.heap.size := h; omega))
  have HGI := Lib.hid hgi
  have HK5 := Lib.hid hk5
  have htop := HK4.out.size
  clear hcb hgi hk5 c2 f2 HI1
  unfold heurX SG.ptr at *
  generalize (w4.setCell ⟨s.sb, 2, none⟩ (.func (.func 54) #[.pointer (some ⟨s.sb, 3, none⟩)] #[])) = w5 at *
  have hlids : ∀ u, u ∈ s.l ↔ u ∈ G.ids := fun u => by rw [HL.out]
  have hllen : s.l.length = G.ids.length := by rw [HL.out]
  have eH : ∀ args w, (callFunc 54 args).run Tryz.prog w = .ok (.enter 54 args) w := enters_of Tryz.func54 (by kernel_rfl) rfl
  have hgr := greedyAny_spec (T := 132) (w := w5) (cb := w1.heap.size) (ordX (base := base) (top := w4.heap.size) (pb := pb) (cb := w1.heap.size) (wk0 := .slice none 0 0) (heur_dsatur hlids (by rw [HL.out]; exact HND.out)) (trivial) HU.out hlids hllen (by rw [← HNN.out]; exact h0) ⟨by omega, by omega⟩ eH)
    (fun W hk => ⟨⟨rfl, .inl ⟨rfl, rfl, HGI.out.keepF hk⟩⟩, HGI.out.col.keepF hk⟩) (HP.out _ _ HK5.out (fun _ h => h.elim)) HU.out (by omega) (by have := HGI.out.l8; omega) (by rw [← HNN.out]; exact h0)
    (fun w => by kernel_rfl) (fun w => by kernel_rfl) (enters_of Tryz.func275 (by kernel_rfl) rfl) (enters_of Tryz.func276 (by kernel_rfl) rfl)
  obtain ⟨_, _, _, _, _, _, _, _, c8, _, _⟩ := HGI.out.cells
  have HGR := Lib.hid hgr
  clear hgr hlids hllen eH
  go_wp2_with (first
    | (((with_reducible refine (HGR.out).mono ?_); rintro e w6 ⟨k, C, rfl, hgg, hkn, hc6, hk6⟩); have HGG := Lib.hid hgg; have HKN := Lib.hid hkn; have HC6 := Lib.hid hc6; have HK6 := Lib.hid (HK5.out.trans hk6 (fun b hb h => by omega)); clear hgg hkn hc6 hk6))
  go_ret3
  exact ⟨k, w1.heap.size, C, by simp, HGG.out, HKN.out, HC6.out, HK6.out⟩
set_option maxHeartbeats 8000000 in
set_option maxRecDepth 100000 in
theorem SanSegundo_spec {B pb : Nat} {w : World} {G : PG} (hG : Plain B w pb G) (hB : B ≤ w.heap.size) (hU : UG G) (h0 : 0 < G.ids.length) (h16 : G.ids.length = 2) :
    Calls Tryz.prog 116 #[gV pb, .map none] w (ColPost w G) := by
  unfold ColPost
  have hN := uNodes_spec hG
  have hP : ∀ S W, Keep S w W → (∀ b, S b → B ≤ b) → Plain B W pb G := fun S W hk hs => hG.keep hk hs
  have hsf := storeFn
  have hlen : G.ids.length ≤ 1000 := by omega
  have hnd := PG.ids_nodup hU.ok
  obtain ⟨n, hnn⟩ : ∃ n, n = G.ids.length := ⟨_, rfl⟩
  have HNN := Lib.hid hnn
  have HN := Lib.hid hN
  have HP := Lib.hid hP
  have HU := Lib.hid hU
  have HND := Lib.hid hnd
  have HH16 := Lib.hid h16
  rw [← hnn] at h0 hlen
  clear hN hP hG hU hnd hnn h16
  go_enter Tryz.func116, Tryz.ntmps116
  go_upto_region 7 with (first
    | (((with_reducible refine (HN.out).mono ?_); rintro e w1 ⟨it, g1, rfl, hi1, hl1, hg1, hk1⟩); have HI1 := Lib.hid hi1; have HK1 := Lib.hid hk1; clear hi1 hk1)
    | (((with_reducible refine (Len_spec HI1.out (Nat.zero_le _)).mono ?_); rintro e w2 ⟨rfl, q, rfl⟩); rw [List.length_map, Nat.sub_zero, ← HNN.out])
    | (((with_reducible refine (newPartial_spec _ _).mono ?_); rintro e w3 ⟨rfl, rfl⟩)))
  have hk2 := (HK1.out.drewN q)
  have hi2 := HI1.out.keep ((Keep.refl (fun _ => False) w1).drewN q) (fun h => h) (fun h => h)
  have hl2 : it < (w1.drewN q).heap.size := hi2.lt
  have hg2 : g1 < (w1.drewN q).heap.size := hi2.lt'
  have E2 := Lib.hid (show (w1.drewN q).heap.size = w1.heap.size by simp)
  generalize w1.drewN q = w2 at *
  have HMADE := Lib.hid (show ColAt (w2.alloc (.map #[] 0)) w1.heap.size [] by rw [← E2.out]; exact MapAt.made w2)
  rw [E2.out] at hl2 hg2
  have hka := (Keep.refl (fun _ => False) w2).alloc (.map #[] 0)
  have hby := bySat_spec (cb := w1.heap.size) (HP.out _ _ (hk2.alloc (.map #[] 0)) (fun _ h => h.elim)) (hi2.keep hka (fun h => h) (fun h => h)) (fun u hu => hu) HND.out (by rw [← HNN.out]; exact h0) (by rw [← HNN.out]; exact hlen) HMADE.out (show w1.heap.size ≠ it by omega) (show B ≤ it by omega)
  have HBY := Lib.hid hby
  have HK2 := Lib.hid hk2
  clear hby hka hi2 hk2
  go_upto_region 9 with (first
    | (((with_reducible refine (HBY.out).mono ?_); rintro e w4 ⟨s, base, rfl, hl, hsat, hadj, hdeg, hnb, hsb, hib, hdb, hab, b1, b2, b3, b4, b5, hk4⟩); have c2 : w4.cell? ⟨s.sb, 2, none⟩ = some .nilFunc := (by rw [cell_of hsat.head]; rfl); have f2 := free_of hsat.head 2; have HSAT := Lib.hid hsat; have HADJ := Lib.hid hadj; have HDEG := Lib.hid hdeg; have HK4 := Lib.hid hk4; have HL := Lib.hid hl; have HNB := Lib.hid hnb; have hnbl : s.nb < w1.heap.size := (by omega); rw [show (w2.alloc (.map #[] 0)).heap.size = w1.heap.size + 1 by simp; exact E2.out] at hsb hib hdb hab b4; clear hsat hadj hdeg hk4 hl hnb))
  have hsz3 : (w2.alloc (.map #[] 0)).heap.size = w1.heap.size + 1 := by simp; exact E2.out
  have hw2 : w.heap.size ≤ w1.heap.size := HK1.out.size
  have hcb : ColAt w4 w1.heap.size [] := ColAt.keep HMADE.out HK4.out (show ¬ w1.heap.size = it by omega)
  have hgi := GX.start (fH := 156) HSAT.out HADJ.out HDEG.out hcb (by omega) b1 b2 b3 (by omega) b5 (by omega)
  have hk5 : Keep (fun _ => False) w (w4.setCell ⟨s.sb, 2, none⟩ (heurX 156 s)) := (((HK2.out.alloc (.map #[] 0)).trans HK4.out (fun b hb h => by omega)).setCell (a := ⟨s.sb, 2, none⟩) _ (fun h => by have h' : s.sb < w.heap.size := h; omega))
  have HGI := Lib.hid hgi
  have HK5 := Lib.hid hk5
  have htop := HK4.out.size
  clear hcb hgi hk5 c2 f2 HI1
  unfold heurX SG.ptr at *
  generalize (w4.setCell ⟨s.sb, 2, none⟩ (.func (.func 156) #[.pointer (some ⟨s.sb, 3, none⟩)] #[])) = w5 at *
  have hlids : ∀ u, u ∈ s.l ↔ u ∈ G.ids := fun u => by rw [HL.out]
  have hllen : s.l.length = G.ids.length := by rw [HL.out]
  have eH : ∀ args w, (callFunc 156 args).run Tryz.prog w = .ok (.enter 156 args) w := enters_of Tryz.func156 (by kernel_rfl) rfl
  have hgr := greedyAny_spec (T := 132) (w := w5) (cb := w1.heap.size) (ordX (base := base) (top := w4.heap.size) (pb := pb) (cb := w1.heap.size) (wk0 := .slice none 0 0) (heur_pass (by omega) hlids (by rw [HL.out]; exact HND.out) (by rw [hllen]; exact HH16.out)) (fun _ => rfl) HU.out hlids hllen (by rw [← HNN.out]; exact h0) ⟨by omega, by omega⟩ eH)
    (fun W hk => ⟨⟨rfl, .inl ⟨rfl, rfl, HGI.out.keepF hk⟩⟩, HGI.out.col.keepF hk⟩) (HP.out _ _ HK5.out (fun _ h => h.elim)) HU.out (by omega) (by have := HGI.out.l8; omega) (by rw [← HNN.out]; exact h0)
    (fun w => by kernel_rfl) (fun w => by kernel_rfl) (enters_of Tryz.func275 (by kernel_rfl) rfl) (enters_of Tryz.func276 (by kernel_rfl) rfl)
  obtain ⟨_, _, _, _, _, _, _, _, c8, _, _⟩ := HGI.out.cells
  have HGR := Lib.hid hgr
  clear hgr hlids hllen eH
  go_wp2_with (first
    | (((with_reducible refine (HGR.out).mono ?_); rintro e w6 ⟨k, C, rfl, hgg, hkn, hc6, hk6⟩); have HGG := Lib.hid hgg; have HKN := Lib.hid hkn; have HC6 := Lib.hid hc6; have HK6 := Lib.hid (HK5.out.trans hk6 (fun b hb h => by omega)); clear hgg hkn hc6 hk6))
  go_ret3
  exact ⟨k, w1.heap.size, C, by simp, HGG.out, HKN.out, HC6.out, HK6.out⟩
end Go.Proofs.YtdaccgelmcmfjaaGreatDoor
end
