/- coloring.DsaturExact: the least number of colours. -/
import Derived.Test.YtdaccgelmcmfjaaGreatDoorJQ17
import Derived.Test.YtdaccgelmcmfjaaGreatDoorJQ9
import Derived.Test.YtdaccgelmcmfjaaGreatDoorQ14
import Derived.Test.YtdaccgelmcmfjaaGreatDoorJQ4
set_option linter.all false
namespace Go.Proofs.YtdaccgelmcmfjaaGreatDoor
open Go.RowKit Go.V
def ColsBack (w : World) (G : PG) (cv : Value) : Prop := ∃ m D, cv = .map (some m) ∧ ColAt w m D ∧ Whole G D
def ExactPost (w : World) (G : PG) (e : Ending) (w' : World) : Prop :=
  ∃ (k : Nat) (cv : Value), e = .returned (.tuple #[.int .i64 (k : Int), cv, .nilIface]) ∧ Chi G.ids G.adj k ∧ ColsBack w' G cv ∧ Keep (fun _ => False) w w'
theorem chi_full {G : PG} {l : List Int} (hU : UG G) (hl : Clique G l) (hn : l.length = G.ids.length) : Chi G.ids G.adj l.length := by
  refine ⟨⟨fun u => G.ids.idxOf u, fun u hu => by rw [hn]; exact List.idxOf_lt_length_iff.2 hu, fun u hu v hv hadj he => ?_⟩, fun m hm => hm.clique l hl.nodup hl.mem hl.adj⟩
  rw [idxOf_inj hu hv he] at hadj
  exact hU.irr _ hadj
theorem chi_clique {G : PG} {l : List Int} {k : Nat} (hl : Clique G l) (hk : Colorable G.ids G.adj k) (hn : l.length = k) : Chi G.ids G.adj k :=
  ⟨hk, fun m hm => by rw [← hn]; exact hm.clique l hl.nodup hl.mem hl.adj⟩
theorem cget_zip {l : List Int} (hn : l.Nodup) {u : Int} {x : Nat} : cget l.zipIdx u = some x ↔ l[x]? = some u := by
  rw [cget_mem (by rw [List.zipIdx_map_fst]; exact hn), List.mem_zipIdx_iff_getElem?]
theorem clique_part {G : PG} {l : List Int} (hU : UG G) (hl : Clique G l) : Part G.ids G.adj (cget l.zipIdx) l.length := by
  refine ⟨fun u x hx => ?_, fun x hx => ⟨l[x], (cget_zip hl.nodup).2 (List.getElem?_eq_getElem hx)⟩, fun u v x hu hv hadj => ?_⟩
  · rw [cget_zip hl.nodup] at hx
    exact ⟨hl.mem u (List.mem_of_getElem? hx), (List.getElem?_eq_some_iff.1 hx).1⟩
  · rw [cget_zip hl.nodup] at hu hv
    rw [hu] at hv; cases hv
    exact hU.irr _ hadj
theorem clique_whole {G : PG} {l : List Int} (hU : UG G) (hl : Clique G l) (hn : l.length = G.ids.length) : Whole G l.zipIdx := by
  refine ⟨fun u hu => hl.mem u (by rwa [List.zipIdx_map_fst] at hu), fun u hu => ?_, (clique_part hU hl).apart⟩
  have hm : u ∈ l := Classical.byContradiction fun h => by
    have := nodup_le (l := u :: l) (ids := G.ids) (List.nodup_cons.2 ⟨h, hl.nodup⟩) (fun v hv => by
      rcases List.mem_cons.1 hv with rfl | hv
      · exact hu
      · exact hl.mem v hv)
    rw [List.length_cons] at this
    omega
  obtain ⟨x, hx⟩ := List.mem_iff_getElem?.1 hm
  exact ⟨x, (cget_zip hl.nodup).2 hx⟩
theorem clique_ext {G : PG} {l : List Int} {m : Nat} (hl : Clique G l) (hm : Colorable G.ids G.adj m) : Ext G.ids G.adj (cget l.zipIdx) m :=
  Ext.of_clique (fun u v x hu hv => by
    rw [cget_zip hl.nodup] at hu hv
    rw [hu] at hv; cases hv; rfl) (fun u v x y hx hy huv => by
    rw [cget_zip hl.nodup] at hx hy
    exact hl.adj u (List.mem_of_getElem? hx) v (List.mem_of_getElem? hy) huv) hm
theorem GI.start {w : World} {s : SG} {pb cb base : Nat} {wk : Value} (hs : Sat w s pb (-1) (-1) .nilFunc (.map (some cb)) wk) (ha : AdjW w s base w.heap.size) (hd : DegN w s) (hc : ColAt w cb []) (l2 : s.nb < base) (l3 : s.ib < base) (l4 : s.db < base) (l5 : s.ab < base) (l6 : cb < base) (l7 : base ≤ w.heap.size) (ne : cb ≠ s.ib ∧ cb ≠ s.nb) :
    GI (w.setCell ⟨s.sb, 2, none⟩ (heurV s)) s pb cb base w.heap.size (-1) (-1) [] := by
  have hk : Keep (fun b => b = s.sb) w (w.setCell ⟨s.sb, 2, none⟩ (heurV s)) := (Keep.refl _ _).setCell (a := ⟨s.sb, 2, none⟩) _ (fun _ => rfl)
  have hib : s.ib ≠ s.sb := by obtain ⟨IX, b, _⟩ := hs.idx; exact MapAt.ne_cells b hs.head
  refine ⟨⟨wk, by rw [heapV_setCell hs.head]; rfl, hs.nodes.keep hk hs.n1, hs.small, ?_, ?_, ?_, hs.n1, hs.n2, hs.n3, hs.n4, hs.n5, Nat.lt_of_lt_of_le hs.nbl hk.size⟩, fun i hi => ?_, fun i hi => ?_, hc.keep hk (hs.colNe hc).1, hs.sb_lt, l2, l3, l4, l5, l6, l7, hk.size, ne⟩
  · obtain ⟨IX, x, y⟩ := hs.idx; exact ⟨IX, x.keep hk hib, y⟩
  · obtain ⟨cs, x, y⟩ := hs.deg; exact ⟨cs, hk.get x hs.n2, y⟩
  · obtain ⟨cs, x, y⟩ := hs.adj; exact ⟨cs, hk.get x hs.n3, y⟩
  · obtain ⟨b, ks, x, y, z⟩ := ha i hi
    exact ⟨b, ks, by rw [hk.cell (a := ⟨s.ab, i, none⟩) (World.block_lt_of_cell? _ _ x) hs.n3]; exact x, y.keep hk (show ¬ b = s.sb from MapAt.ne_cells y hs.head), z⟩
  · obtain ⟨d, x⟩ := hd i hi
    exact ⟨d, by rw [hk.cell (a := ⟨s.db, i, none⟩) (World.block_lt_of_cell? _ _ x) hs.n2]; exact x⟩
def Boxed (w w6 : World) (G : PG) (s : SG) (pb cb : Nat) (C : PC) (t : Value) (wx : World) : Prop :=
  ∃ (bx m ub : Nat) (l U : List Int), t = .pointer (some ⟨bx, 0, none⟩) ∧ wx.heap[bx]? = some (.cells #[.map (some m), .map (some ub)] 145 (0, 0)) ∧ ColAt wx m l.zipIdx ∧ Clique G l ∧ SetAt wx ub U ∧ (∀ x, x ∈ U ↔ x ∈ s.l ∧ cget l.zipIdx x = none) ∧ w6.heap.size ≤ m ∧ m < ub ∧
    (∃ cnt curr heur cv wk, Sat wx s pb cnt curr heur cv wk) ∧ ColAt wx cb C ∧ Keep (fun _ => False) w wx
theorem boxed_end {w w6 w8 wb : World} {G : PG} {s : SG} {pb cb bx m ub : Nat} {C : PC} {l U : List Int} {cnt curr : Int} {heur cv wk : Value} (hb : wb.heap[bx]? = some (.cells #[.map none, .map none] 145 (0, 0))) (hk : Keep (fun _ => False) w8 wb)
    (hc : ColAt w8 m l.zipIdx) (hcl : Clique G l) (hs : SetAt w8 ub U) (hm : ∀ x, x ∈ U ↔ x ∈ s.l ∧ cget l.zipIdx x = none) (h6 : w6.heap.size ≤ m) (hmu : m < ub) (hsat : Sat w8 s pb cnt curr heur cv wk) (hC : ColAt w8 cb C) (hk8 : Keep (fun _ => False) w w8)
    (n1 : bx ≠ m) (n2 : bx ≠ ub) (n3 : bx ≠ cb) (n4 : w6.heap.size ≤ bx) (n5 : s.sb < w6.heap.size ∧ s.nb < w6.heap.size ∧ s.ib < w6.heap.size ∧ s.db < w6.heap.size ∧ s.ab < w6.heap.size) (n6 : w.heap.size ≤ w6.heap.size) :
    Boxed w w6 G s pb cb C (.pointer (some ⟨bx, 0, none⟩)) ((wb.setCell ⟨bx, 0, none⟩ (.map (some m))).setCell ⟨bx, 1, none⟩ (.map (some ub))) := by
  have hk2 : Keep (fun b => b = bx) wb ((wb.setCell ⟨bx, 0, none⟩ (.map (some m))).setCell ⟨bx, 1, none⟩ (.map (some ub))) := ((Keep.refl (fun b => b = bx) wb).setCell (a := ⟨bx, 0, none⟩) _ (fun _ => rfl)).setCell (a := ⟨bx, 1, none⟩) _ (fun _ => rfl)
  have h0 : (wb.setCell ⟨bx, 0, none⟩ (.map (some m))).heap[bx]? = some (.cells #[.map (some m), .map none] 145 (0, 0)) := by rw [heapV_setCell hb]; rfl
  refine ⟨bx, m, ub, l, U, rfl, by rw [heapV_setCell h0]; rfl, (hc.keepF hk).keep hk2 (Ne.symm n1), hcl, (hs.keep hk (fun h => h)).keep hk2 (Ne.symm n2), hm, h6, hmu, ⟨cnt, curr, heur, cv, wk, (hsat.keepF hk).keep hk2 (by omega) (by omega) (by omega) (by omega) (by omega)⟩, (hC.keepF hk).keep hk2 (Ne.symm n3), (hk8.trans hk (fun _ _ h => h)).trans hk2 (fun b hb' h => by omega)⟩
theorem boxed_new {w w6 w8 : World} {G : PG} {s : SG} {pb cb m ub : Nat} {C : PC} {l U : List Int} {cnt curr : Int} {heur cv wk : Value}
    (hc : ColAt w8 m l.zipIdx) (hcl : Clique G l) (hs : SetAt w8 ub U) (hm : ∀ x, x ∈ U ↔ x ∈ s.l ∧ cget l.zipIdx x = none) (h6 : w6.heap.size ≤ m) (hmu : m < ub) (hsat : Sat w8 s pb cnt curr heur cv wk) (hC : ColAt w8 cb C) (hk8 : Keep (fun _ => False) w w8) :
    Boxed w w6 G s pb cb C (.pointer (some ⟨w8.heap.size, 0, none⟩)) (w8.alloc (.cells #[.map (some m), .map (some ub)] 145 (0, 0))) := by
  have hk := (Keep.refl (fun _ => False) w8).alloc (.cells #[.map (some m), .map (some ub)] 145 (0, 0))
  exact ⟨w8.heap.size, m, ub, l, U, rfl, heap_new w8 _, hc.keepF hk, hcl, hs.keep hk (fun h => h), hm, h6, hmu, ⟨cnt, curr, heur, cv, wk, hsat.keepF hk⟩, hC.keepF hk, hk8.alloc _⟩
theorem boxCells2 {W : World} {b : Nat} {u v : Value} {t : TypeId} (h : W.heap[b]? = some (.cells #[u, v] t (0, 0))) : W.cell? ⟨b, 0, none⟩ = some u ∧ W.cell? ⟨b, 1, none⟩ = some v ∧ W.frozen? ⟨b, 0, none⟩ = false ∧ W.frozen? ⟨b, 1, none⟩ = false := by
  refine ⟨?_, ?_, free_of h 0, free_of h 1⟩ <;> (rw [cell_of h]; rfl)
theorem eqlSomeM (bm : Nat) (w : World) : (binOp .eql 83 (.map (some bm)) (.map none)).run Tryz.prog w = .ok (.bool false) w := by kernel_rfl
theorem eqlNilM (w : World) : (binOp .eql 83 (.map none) (.map none)).run Tryz.prog w = .ok (.bool true) w := by kernel_rfl
theorem storeFn (W : World) (a : Addr) (fn : Fn) (x y : Array Value) (m : Mode) : (store a (.func fn x y) m).run Tryz.prog W = stored Tryz.prog W a (.func fn x y) m := run_store Tryz.prog W a _ m rfl
set_option maxHeartbeats 8000000 in
set_option maxRecDepth 100000 in
theorem DsaturExact_spec {B pb : Nat} {w : World} {G : PG} (hG : Plain B w pb G) (hB : B ≤ w.heap.size) (hU : UG G) (h0 : 0 < G.ids.length) (h16 : G.ids.length ≤ 16) :
    Calls Tryz.prog 31 #[.nilIface, gV pb] w (ExactPost w G) := by
  unfold ExactPost
  have hN := uNodes_spec hG
  have hP : ∀ W, Keep (fun _ => False) w W → Plain B W pb G := fun W hk => hG.keepF hk
  have hmx : ∀ W, Keep (fun _ => False) w W → Calls Tryz.prog 51 #[gV pb] W (MaxPost W G) := fun W hk => maxClique_spec (hP W hk) (Nat.le_trans hB hk.size) hU h0 h16
  have hmm := @run_makeMap Tryz.prog
  have hsf := storeFn
  have hen := eqlNilM
  have hes := eqlSomeM
  have HN := Lib.hid hN
  have HP := Lib.hid hP
  have HMX := Lib.hid hmx
  have HU := Lib.hid hU
  have hn0 : ∃ n, n = G.ids.length := ⟨_, rfl⟩
  obtain ⟨n, hnn⟩ := hn0
  have HNN := Lib.hid hnn
  rw [← hnn] at h0 h16
  clear hN hP hmx hG hU hnn
  go_enter Tryz.func31, Tryz.ntmps31
  go_upto_region 5 with (first
    | (((with_reducible refine (HN.out).mono ?_); rintro e w1 ⟨it, g1, rfl, hi1, hl1, hg1, hk1⟩); have HI1 := Lib.hid hi1; have HK1 := Lib.hid hk1; clear hi1 hk1)
    | (((with_reducible refine (Len_spec HI1.out (Nat.zero_le _)).mono ?_); rintro e w2 ⟨rfl, q, rfl⟩); rw [List.length_map, Nat.sub_zero, ← HNN.out])
    | (((with_reducible refine (HMX.out _ (HK1.out.drewN q)).mono ?_); rintro e w3 ⟨ml, mb, mv, cv, cs, rfl, hcr, hcl, hcs, hk3⟩); have HCR := Lib.hid hcr; have HCL := Lib.hid hcl; have HCS := Lib.hid hcs; have HK3 := Lib.hid ((HK1.out.drewN q).trans hk3 (fun _ _ h => h)); have hk13 : w1.heap.size ≤ w3.heap.size := hk3.size; have HI3 := Lib.hid ((HI1.out.keep ((Keep.refl (fun _ => False) w1).drewN q) (fun h => h) (fun h => h)).keep hk3 (fun h => h) (fun h => h)); clear hcr hcl hcs hk3))
  have hids := HU.out.ok
  have hnd := PG.ids_nodup hids
  have hmlen := HCL.out.length HU.out
  rw [← HNN.out] at hmlen
  have hitl := HI3.out.lt
  have hgl := HI3.out.lt'
  by_cases hfull : ml.length = n
  · have d1 : ((ml.length : Int) == (n : Int)) = true := by rw [beq_iff_eq]; omega
    have hcc := colorClique_spec HCR.out.row HCL.out.nodup (show ml.length ≤ 1000000 by omega)
    have HCC := Lib.hid hcc
    clear hcc hids hnd
    go_wp2_with (first
      | (((with_reducible refine (HCC.out).mono ?_); rintro e w4 ⟨m, rfl, hm, hc, hk⟩); have HC := Lib.hid hc; have HK := Lib.hid hk; clear hc hk))
    go_ret3
    exact ⟨ml.length, _, by rw [hfull]; rfl, chi_full HU.out HCL.out (by rw [hfull]; exact HNN.out), ⟨m, ml.zipIdx, rfl, HC.out, clique_whole HU.out HCL.out (by rw [hfull]; exact HNN.out)⟩, HK3.out.trans HK.out (fun _ _ h => h)⟩
  · have d1 : ((ml.length : Int) == (n : Int)) = false := by rw [beq_eq_false_iff_ne]; omega
    have hka := (Keep.refl (fun _ => False) w3).alloc (.map #[] 0)
    have hby := bySat_spec (cb := w3.heap.size) (HP.out _ (HK3.out.alloc (.map #[] 0))) (HI3.out.keep hka (fun h => h) (fun h => h)) (fun u hu => hu) hnd (by rw [← HNN.out]; exact h0) (by rw [← HNN.out]; omega) (MapAt.made w3) (show w3.heap.size ≠ it by omega) (show B ≤ it by omega)
    have HBY := Lib.hid hby
    clear hby hids hka
    go_upto_region 9 with (first
      | (((with_reducible refine (HBY.out).mono ?_); rintro e w4 ⟨s, base, rfl, hl, hsat, hadj, hdeg, hnb, hsb, hib, hdb, hab, b1, b2, b3, b4, b5, hk4⟩); have c2 : w4.cell? ⟨s.sb, 2, none⟩ = some .nilFunc := (by rw [cell_of hsat.head]; rfl); have f2 := free_of hsat.head 2; have HSAT := Lib.hid hsat; have HADJ := Lib.hid hadj; have HDEG := Lib.hid hdeg; have HK4 := Lib.hid hk4; have HL := Lib.hid hl; have HNB := Lib.hid hnb; have hnbl : s.nb < w1.heap.size := (by have := HI1.out.lt'; omega); clear hsat hadj hdeg hk4 hl hnb))
    have hsz3 : (w3.alloc (.map #[] 0)).heap.size = w3.heap.size + 1 := by simp
    have hw3 := HK3.out.size
    have hw13 : w1.heap.size ≤ w3.heap.size := hk13
    have hcb : ColAt w4 w3.heap.size [] := ColAt.keep (MapAt.made w3) HK4.out (show ¬ w3.heap.size = it by omega)
    have hgi := GI.start HSAT.out HADJ.out HDEG.out hcb (by omega) b1 b2 b3 (by omega) b5 (by omega)
    have hk5 : Keep (fun _ => False) w (w4.setCell ⟨s.sb, 2, none⟩ (heurV s)) := (((HK3.out.alloc (.map #[] 0)).trans HK4.out (fun b hb h => by omega)).setCell (a := ⟨s.sb, 2, none⟩) _ (fun h => by have h' : s.sb < w.heap.size := h; omega))
    have hk35 : Keep (fun b => b = it ∨ w3.heap.size ≤ b) w3 (w4.setCell ⟨s.sb, 2, none⟩ (heurV s)) := ((((Keep.refl (fun b => b = it ∨ w3.heap.size ≤ b) w3).alloc (.map #[] 0)).trans HK4.out (fun b hb h => .inl h)).setCell (a := ⟨s.sb, 2, none⟩) _ (fun h => .inr (show w3.heap.size ≤ s.sb by omega)))
    have HGI := Lib.hid hgi
    have HK5 := Lib.hid hk5
    have HK35 := Lib.hid hk35
    have htop := HK4.out.size
    clear hcb hgi hk5 hk35 c2 f2 HI3
    unfold heurV SG.ptr at *
    generalize (w4.setCell ⟨s.sb, 2, none⟩ (.func (.func 54) #[.pointer (some ⟨s.sb, 3, none⟩)] #[])) = w5 at *
    have hlids : ∀ u, u ∈ s.l ↔ u ∈ G.ids := fun u => by rw [HL.out]
    have hllen : s.l.length = G.ids.length := by rw [HL.out]
    have hgr := greedy_spec HGI.out (HP.out _ HK5.out) HU.out hlids hllen (by omega) (by rw [← HNN.out]; exact h0)
    obtain ⟨_, _, _, _, _, _, _, _, c8, _, _⟩ := HGI.out.cells
    have HGR := Lib.hid hgr
    have HLIDS := Lib.hid hlids
    clear hgr hlids hllen
    go_upto_region 10 with (first
      | (((with_reducible refine (HGR.out).mono ?_); rintro e w6 ⟨k, C, cnt, curr, rfl, hcol, hkeys, hkn, hg6, hk6⟩); have HCOL := Lib.hid hcol; have HKEYS := Lib.hid hkeys; have HG6 := Lib.hid hg6; have HK6 := Lib.hid (HK5.out.trans hk6 (fun b hb h => by omega)); have HK56 := Lib.hid hk6; clear hcol hkeys hg6 hk6))
    by_cases hub : ml.length = k + 1
    · have d2 : ((ml.length : Int) == (k : Int) + 1) = true := by rw [beq_iff_eq]; omega
      go_wp2_with fail
      go_ret3
      exact ⟨k + 1, _, by simp, chi_clique HCL.out HCOL.out hub, ⟨w3.heap.size, C, rfl, HG6.out.col, HKEYS.out⟩, HK6.out⟩
    · have d2 : ((ml.length : Int) == (k : Int) + 1) = false := by rw [beq_eq_false_iff_ne]; omega
      obtain ⟨_, _, _, c3, _, _, _, _, _, _, _⟩ := HG6.out.cells
      unfold SG.nodesV at c3
      have hk36 : Keep (fun b => b = it ∨ w3.heap.size ≤ b) w3 w6 := HK35.out.trans HK56.out (fun b hb h => .inr (by omega))
      have hitw : it < w1.heap.size := HI1.out.lt
      have hq1 : (w1.drewN q).heap.size = w1.heap.size := rfl
      have hcl6 : Cl w6 (w1.drewN q).heap.size G cv cs := HCS.out.keep hk36 (fun g hg h => by have := HCS.out.own.lt g hg; omega) (fun c hc h => by have := ((HCS.out.each c hc).1).lt; have := (HCS.out.each c hc).2.2.1; omega)
      have hbm := fun W (hk : Keep (fun _ => False) w6 W) => bestMaximumClique_spec (HP.out _ (HK6.out.trans hk (fun _ _ h => h))) HU.out (hcl6.keepF hk) (show B ≤ (w1.drewN q).heap.size by have := HK1.out.size; omega)
      have hown : ∀ g, cv.ownBlock = some g → w1.heap.size ≤ g ∧ g < w3.heap.size := fun g hg => HCS.out.own.lt g hg
      have hg1l : g1 < w1.heap.size := HI1.out.lt'
      have HOWN := Lib.hid hown
      have hsmm := HG6.out.small
      have hsb6 : s.sb < w6.heap.size ∧ s.nb < w6.heap.size ∧ s.ib < w6.heap.size ∧ s.db < w6.heap.size ∧ s.ab < w6.heap.size ∧ w3.heap.size < w6.heap.size ∧ w.heap.size ≤ w6.heap.size := by
        have a1 := HG6.out.l1; have a2 := HG6.out.l2; have a3 := HG6.out.l3; have a4 := HG6.out.l4; have a5 := HG6.out.l5; have a6 := HG6.out.l6; have a7 := HG6.out.l7; have a8 := HG6.out.l8; have a9 := HK6.out.size
        omega
      have HBM := Lib.hid hbm
      have HCL6 := Lib.hid hcl6
      clear hbm hcl6 hk36 hq1 hown
      go_upto_region 13 with fail
      have c3a : (w6.alloc (.cells #[.map none, .map none] 145 (0, 0))).cell? ⟨s.sb, 3, none⟩ = some (.slice (some ⟨s.nb, s.noff, none⟩) s.l.length s.ncap) := by rw [World.cell?_alloc_lt _ _ _ (show s.sb < w6.heap.size by omega)]; exact c3
      go_cut [16] from 66 to 74 (fun t16 wx => Boxed w w6 G s pb w3.heap.size C t16 wx)
      case first =>
        go_region_with (first
          | (((with_reducible refine (HBM.out _ (by repeat first | exact Keep.refl _ _ | assumption | apply Keep.alloc | apply Keep.drewN | apply Keep.drew | (refine Keep.setCell ?_ _ (fun h => absurd h (Nat.lt_irrefl _))))).mono ?_); rintro e w7 ⟨g, hg, m, l, rfl, hm, hc, hcl, hne, hk7⟩); obtain ⟨o1, o2⟩ := HOWN.out g hg; (try simp at hm); have hm6 : w6.heap.size ≤ m := (by omega); have hk67 : Keep (fun b => b = g) w6 w7 := (Keep.trans (by repeat first | exact Keep.refl _ _ | assumption | apply Keep.alloc | apply Keep.drewN | apply Keep.drew) hk7 (fun _ _ h => h)); (try (have hb7 := hk7.get (b := w6.heap.size) (heap_new w6 _) (show ¬ w6.heap.size = g by omega); obtain ⟨x0, x1, x2, x3⟩ := boxCells2 hb7)); have hnn7 : s.nb ≠ g := (by omega); have hsb7 : s.sb ≠ g := (by omega); have c3' : w7.cell? ⟨s.sb, 3, none⟩ = some (.slice (some ⟨s.nb, s.noff, none⟩) s.l.length s.ncap) := (by obtain ⟨wk7, hs⟩ := HG6.out.sat; rw [hk67.cell (a := ⟨s.sb, 3, none⟩) hs.sb_lt hsb7]; exact hs.cells.1); have c3b : (w7.alloc (.cells #[.map none, .map none] 145 (0, 0))).cell? ⟨s.sb, 3, none⟩ = some (.slice (some ⟨s.nb, s.noff, none⟩) s.l.length s.ncap) := (by rw [World.cell?_alloc_lt _ _ _ (World.block_lt_of_cell? _ _ c3')]; exact c3'); have HM := Lib.hid hm; have HC7 := Lib.hid hc; have HCL7 := Lib.hid hcl; have HK67 := Lib.hid hk67; clear hc hcl hk67)
          | (have hat : Cells w7 s.nb s.noff (s.l.map nodeV) := (by obtain ⟨wk7, hs⟩ := HG6.out.sat; exact hs.nodes.keep HK67.out hnn7); have hkk : Keep (fun _ => False) w7 w7 := Keep.refl _ _; ((with_reducible refine (newDsat_at (hat.keep (S := fun _ => False) (by repeat first | exact Keep.refl _ _ | assumption | apply Keep.alloc | apply Keep.drewN | apply Keep.drew | (refine Keep.setCell ?_ _ (fun h => absurd h (Nat.lt_irrefl _)))) (fun h => h)) (HC7.out.keepF (by repeat first | exact Keep.refl _ _ | assumption | apply Keep.alloc | apply Keep.drewN | apply Keep.drew | (refine Keep.setCell ?_ _ (fun h => absurd h (Nat.lt_irrefl _))))) (by omega)).mono ?_); rintro e w8 ⟨ub, U, rfl, hub2, hset, hmem, hk8⟩); (try (have hb8 := hk8.get hb7 (fun h => h); obtain ⟨y0, y1, y2, y3⟩ := boxCells2 hb8)); (try (have hb8 := hk8.get (b := w7.heap.size) (heap_new w7 _) (fun h => h); obtain ⟨y0, y1, y2, y3⟩ := boxCells2 hb8)); (try simp at hub2); have HSET8 := Lib.hid hset; have HMEM8 := Lib.hid hmem; have HK78 := Lib.hid (show Keep (fun _ => False) w7 w8 from (by first | exact hk8 | exact ((Keep.refl (fun _ => False) w7).alloc _).trans hk8 (fun _ _ h => h))); clear hset hmem hk8 hat hkk))
        all_goals (go_wp2_with fail)
        all_goals go_meet
        all_goals
          obtain ⟨wk6, hs6⟩ := HG6.out.sat
          have hw1 := HK1.out.size
          have hs8 := (hs6.keep HK67.out hsb7 hnn7 (show ¬ s.ib = g by omega) (show ¬ s.db = g by omega) (show ¬ s.ab = g by omega)).keepF HK78.out
          have hC8 := (ColAt.keep HG6.out.col HK67.out (show ¬ w3.heap.size = g by omega)).keepF HK78.out
          have hk8w : Keep (fun _ => False) w w8 := (HK6.out.trans HK67.out (fun b hb h => by omega)).trans HK78.out (fun _ _ h => h)
          have hc8 := HC7.out.keepF HK78.out
          have z67 := HK67.out.size
          have z78 := HK78.out.size
          have m7 := HC7.out.lt
          have u8 := HSET8.out.lt
          first
            | exact boxed_end hb8 (Keep.refl _ _) hc8 HCL7.out HSET8.out HMEM8.out hm6 (by omega) hs8 hC8 hk8w (by omega) (by omega) (by omega) (by omega) (by omega) (by omega)
            | exact boxed_new hc8 HCL7.out HSET8.out HMEM8.out hm6 (by omega) hs8 hC8 hk8w
      case rest =>
        obtain ⟨bx, m, ub, l, U, rfl, hbx, hc, hcl, hset, hmem, hm6, hmu, ⟨cnt2, curr2, heur2, cv2, wk2, hsat⟩, hC, hk⟩ := hcut
        obtain ⟨x0, x1, _, _⟩ := boxCells2 hbx
        have hlen2 : (ckv l.zipIdx).length = l.length := by unfold ckv; simp
        have hcolk := hcl
        have hllk := (HCOL.out).clique l hcl.nodup hcl.mem hcl.adj
        have hln := hcl.length HU.out
        have hnn2 := HNN.out
        have hpre : DsxPre B wc G s pb m ub l.zipIdx U l.length (k + 1) (.map none) := by
          refine ⟨HP.out _ hk, HU.out, by omega, by omega, by omega, by omega, ⟨_, _, _, _, _, hsat⟩, HLIDS.out, by rw [HL.out]; exact hnd, hc, hset, by omega, by omega, by omega, clique_part HU.out hcl, fun x => by rw [hmem x, HLIDS.out], ?_, by omega, .inl rfl⟩
          rcases Nat.lt_or_ge l.length (k + 1) with h | h
          · exact .inl h
          · exact .inr ⟨by omega, clique_ext hcl HCOL.out⟩
        have hds := dsx_spec hpre
        have hmin : ∀ r, (∀ q, Ext G.ids G.adj (cget l.zipIdx) q → r ≤ q) → ∀ q, Colorable G.ids G.adj q → r ≤ q := fun r hr q hq => hr q (clique_ext hcl hq)
        unfold candV SG.ptr at hds
        rw [show ((k + 1 : Nat) : Int) = (k : Int) + 1 by omega] at hds
        have HC9 := Lib.hid hc
        have HDS := Lib.hid hds
        have HLN2 := Lib.hid hlen2
        have HMIN := Lib.hid hmin
        have HCC := Lib.hid hC
        have HKC := Lib.hid hk
        clear hbx hc hcl hset hmem hsat hC hk hcolk hpre hds hlen2 hmin HBM HCL6 hllk hln hnn2
        go_upto_region 15 with (first
          | (at_len; refine wpList_len_kv rfl _ _ rfl 2 3 Tryz.underlying83 m _ rfl HC9.out ?_; rw [HLN2.out])
          | (((with_reducible refine (HDS.out).mono ?_); rintro e w9 ⟨r, rv, C', U', rfl, hrk, hbest, hor, hlow, hc9, _, hs9, _, _, hk9⟩); have HBEST := Lib.hid hbest; have HOR := Lib.hid hor; have HLOW := Lib.hid hlow; have HK9 := Lib.hid hk9; clear hbest hor hlow hc9 hs9 hk9))
        rcases HBEST.out with rfl | ⟨m', D, rfl, hD1, hD2, _⟩
        · have hr : r = k + 1 := by
            rcases HOR.out with ⟨h, _⟩ | ⟨_, h⟩
            · exact h
            · exact absurd rfl h
          have HR := Lib.hid hr
          clear hr
          go_wp2_with fail
          go_ret3
          exact ⟨k + 1, _, by simp, ⟨HCOL.out, fun q hq => by rw [← HR.out]; exact HMIN.out r HLOW.out q hq⟩, ⟨w3.heap.size, C, rfl, ColAt.keep HCC.out HK9.out (by omega), HKEYS.out⟩, HKC.out.trans HK9.out (fun b hb h => by omega)⟩
        · have hcr : Colorable G.ids G.adj r := by
            rcases HOR.out with ⟨_, h⟩ | ⟨h, _⟩
            · cases h
            · exact h
          have HCR2 := Lib.hid hcr
          have HD1 := Lib.hid hD1
          have HD2 := Lib.hid hD2
          clear hcr hD1 hD2
          go_wp2_with fail
          all_goals go_ret3
          all_goals exact ⟨r, _, rfl, ⟨HCR2.out, HMIN.out r HLOW.out⟩, ⟨m', D, rfl, HD1.out, HD2.out⟩, HKC.out.trans HK9.out (fun b hb h => by omega)⟩
end Go.Proofs.YtdaccgelmcmfjaaGreatDoor
