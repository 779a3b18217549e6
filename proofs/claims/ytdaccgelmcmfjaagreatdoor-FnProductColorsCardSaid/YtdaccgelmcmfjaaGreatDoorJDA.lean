/- coloring.greedyColoringOf, from no colours, whatever the order: all nodes are coloured, joined ones apart, with no more colours than nodes. -/
import Derived.Test.YtdaccgelmcmfjaaGreatDoorJQ17
import Derived.Test.YtdaccgelmcmfjaaGreatDoorQ16
import Derived.Deep.RegionHeld3
import Derived.Test.YtdaccgelmcmfjaaGreatDoorJR3
set_option linter.all false
section
namespace Go.Proofs.YtdaccgelmcmfjaaGreatDoor
open Go.RowKit Go.V
structure OrdIs (G : PG) (B cb pb : Nat) (fN fD : FuncId) (pv : Value) (S : World → Nat → PC → Prop) (N : World → Nat → PC → Int → Prop) (M : Nat → Prop) : Prop where
  next : ∀ W j C, S W j C → C.length = j → j < G.ids.length → (∀ u ∈ C.map (·.1), u ∈ G.ids) → Plain B W pb G → Calls Tryz.prog fN #[pv] W fun e w' => ∃ u, e = .returned (.bool true) ∧ u ∈ G.ids ∧ cget C u = none ∧ N w' j C u ∧ Keep M W w'
  node : ∀ W j C u, N W j C u → Calls Tryz.prog fD #[pv] W fun e w' => e = .returned (nodeV u) ∧ ∃ n, w' = W.drewN n
  stop : ∀ W C, S W G.ids.length C → Calls Tryz.prog fN #[pv] W fun e w' => e = .returned (.bool false) ∧ ColAt w' cb C ∧ Keep M W w'
  col : ∀ W j C u, N W j C u → ColAt W cb C
  keep : ∀ W W' j C u, N W j C u → Keep (fun _ => False) W W' → N W' j C u
  put : ∀ W W' j C u c, N W j C u → Keep (fun b => b = cb) W W' → ColAt W' cb (cput C u c) → S W' (j + 1) (cput C u c)
  far : ∀ b, M b → B ≤ b
def GAPost (w : World) (G : PG) (cb : Nat) (M : Nat → Prop) (e : Ending) (w' : World) : Prop :=
  ∃ (k : Nat) (C : PC), e = .returned (.tuple #[.int .i64 ((k + 1 : Nat) : Int), .map (some cb)]) ∧ Gr G C G.ids.length k ∧ k + 1 ≤ G.ids.length ∧ ColAt w' cb C ∧ Keep (fun b => b = cb ∨ M b) w w'
set_option maxHeartbeats 8000000 in
set_option maxRecDepth 100000 in
theorem greedyAny_spec {B pb cb : Nat} {w : World} {G : PG} {T : TypeId} {fN fD : FuncId} {pv : Value} {S : World → Nat → PC → Prop} {N : World → Nat → PC → Int → Prop} {M : Nat → Prop} (ho : OrdIs G B cb pb fN fD pv S N M) (h0 : ∀ W, Keep (fun _ => False) w W → S W 0 [] ∧ ColAt W cb []) (hG : Plain B w pb G) (hU : UG G) (hB : B ≤ cb) (hBw : B ≤ w.heap.size) (hn : 0 < G.ids.length)
    (mN : ∀ w, (method 462 T pv "Next").run Tryz.prog w = .ok (fN, pv) w) (mD : ∀ w, (method 462 T pv "Node").run Tryz.prog w = .ok (fD, pv) w) (eN : ∀ args w, (callFunc fN args).run Tryz.prog w = .ok (.enter fN args) w) (eD : ∀ args w, (callFunc fD args).run Tryz.prog w = .ok (.enter fD args) w) :
    Calls Tryz.prog 55 #[gV pb, .iface T pv, .map (some cb)] w (GAPost w G cb M) := by
  unfold GAPost
  have hsm := hU.ok.small
  have hcol := (h0 w (Keep.refl _ _)).2
  have hG0 : ∀ W, Keep (fun b => b = cb ∨ M b) w W → Plain B W pb G := fun W hk => hG.keep hk (fun b hb => by
    rcases hb with hb | hb
    · omega
    · exact ho.far b hb)
  have hfr : ∀ u ∈ G.ids, ∃ i, G.ids[i]? = some u ∧ (G.nbr i).length ≤ 1000 ∧ ∀ W, Plain B W pb G → Calls Tryz.prog 257 #[uV pb, .int .i64 u] W fun e w' => ∃ it g, e = .returned (.iface 284 (.pointer (some ⟨it, 0, none⟩))) ∧ Iter w' it g ((G.nbr i).map nodeV) 0 ∧ W.heap.size ≤ it ∧ W.heap.size ≤ g ∧ Keep (fun _ => False) W w' := fun u hu => by
    obtain ⟨i, hi⟩ := List.mem_iff_getElem?.1 hu
    exact ⟨i, hi, Nat.le_trans (PG.nbr_length hU.ok hi) hsm, fun W hP => From_any hP hi W (Keep.refl _ _)⟩
  have HG0 := Lib.hid hG0
  have HFR := Lib.hid hfr
  have HUG := Lib.hid hU
  have HO := Lib.hid ho
  have HCOL := Lib.hid hcol
  have H0 := Lib.hid h0
  clear hG hG0 hfr hU ho hcol h0
  obtain ⟨n, hn0⟩ : ∃ n, n = G.ids.length := ⟨_, rfl⟩
  have HNN := Lib.hid hn0
  rw [← hn0] at hn hsm
  clear hn0
  go_enter Tryz.func55, Tryz.ntmps55
  go_wp2_with (first
    | (at_range; refine wpList_range_kv rfl _ _ rfl 2 3 Tryz.underlying83 cb _ rfl HCOL.out ?_; intro w1 hr hk hs; have HR := Lib.hid hr; have HK1 := Lib.hid hk; clear hr hk hs; go_frame))
  refine wp_loop_rounds 1 ?_
  rw [rounds_succ]
  go_wp2_with (first
    | (at_next; refine wpList_next_ent rfl _ rfl w.heap.size cb _ _ rfl HR.out ?_ ?_; rotate_left; intro kk x w7 hmem hr2 hk2 hs2 hent; simp [ckv] at hmem; intro hnil))
  have hstart := (H0.out _ HK1.out).1
  have HST := Lib.hid hstart
  have HKS := Lib.hid (HK1.out.mono (T := fun b => b = cb ∨ M b) (fun _ _ h => h.elim))
  clear hstart HCOL HR HK1 H0
  go_loopg [6, 7] (n + 1) (fun gk a6 a7 wr => ∃ (j k : Nat) (C : PC), a6 = .int .i64 (k : Int) ∧ a7 = .map (some cb) ∧ j + gk = n + 1 ∧ j ≤ n ∧ S wr j C ∧ Gr G C j k ∧ (j = 0 → k = 0) ∧ (0 < j → k + 1 ≤ j) ∧ Keep (fun b => b = cb ∨ M b) w wr)
  case atStart => exact ⟨0, 0, [], rfl, rfl, by omega, Nat.zero_le _, HST.out, Gr.nil G, fun _ => rfl, fun h => absurd h (Nat.lt_irrefl _), HKS.out⟩
  case round =>
    obtain ⟨j, k, C, rfl, rfl, hgk, hjn, hs, hgr, hk0, hk1, hk⟩ := hrel
    have HS := Lib.hid hs
    have HGR := Lib.hid hgr
    have HK := Lib.hid hk
    have HGK := Lib.hid hgk
    have hkj := hgr.kj
    clear HST HKS
    by_cases hlt : j < n
    · have hnx := HO.out.next wr j C hs hgr.len (by rw [← HNN.out]; exact hlt) hgr.mem (HG0.out _ hk)
      have HNX := Lib.hid hnx
      clear hnx hs hgr hk hgk
      go_upto_region 11 with (first
        | (((with_reducible refine (HNX.out).mono ?_); rintro e w4 ⟨u, rfl, hum, hun, hn4, hk4⟩); have HN4 := Lib.hid hn4; have HK4 := Lib.hid (HK.out.trans hk4 (fun b _ h => .inr h)); have HUM := Lib.hid hum; have HUN := Lib.hid hun; clear hn4 hk4 hum hun)
        | (((with_reducible refine (HO.out.node _ _ _ _ HN4.out).mono ?_); rintro e w5 ⟨rfl, q, rfl⟩))
        | (((with_reducible refine (ID_at _ _).mono ?_); rintro e w6 ⟨rfl, rfl⟩)))
      obtain ⟨gi, hgi, hnl, hfr⟩ := HFR.out u HUM.out
      have hk5 := HK4.out.drewN q
      have hn5 := HO.out.keep _ _ _ _ _ HN4.out ((Keep.refl (fun _ => False) w4).drewN q)
      have HFR2 := Lib.hid (hfr _ (HG0.out _ hk5))
      have HGI := Lib.hid hgi
      have HN5 := Lib.hid hn5
      have HK5 := Lib.hid hk5
      clear hfr hgi hn5 hk5 HN4 HK4
      generalize w4.drewN q = w5 at *
      have hln : kget (ckv C) u = none := by rw [kget_ckv, HUN.out]; rfl
      have HLN := Lib.hid hln
      have hcl5 := HO.out.col _ _ _ _ HN5.out
      have HC5 := Lib.hid hcl5
      clear hln hcl5
      go_wp2_with (first
        | (((with_reducible refine (HFR2.out).mono ?_); rintro e w6 ⟨it, g, rfl, hi, h1, h2, hk6⟩); have HI := Lib.hid hi; have HC6 := Lib.hid (HC5.out.keepF hk6); have HK56 := Lib.hid hk6; have hl5 := HC5.out.lt; have hl6 := HC6.out.lt; clear hi hk6)
        | (((with_reducible refine (colorsOf_spec HI.out HC6.out (by omega) (by omega)).mono ?_); rintro e w7 ⟨mb, ks, rfl, hmb, hset, hcol, hk7⟩); have HK57 := Lib.hid (HK56.out.trans hk7 (fun b hb h => by omega)); have HN7 := Lib.hid (HO.out.keep _ _ _ _ _ HN5.out HK57.out); have HC7 := Lib.hid (HO.out.col _ _ _ _ HN7.out); have HK7 := Lib.hid (HK5.out.trans HK57.out (fun b hb h => h.elim)); have HSET := Lib.hid hset; have HCOL := Lib.hid hcol; clear hset hcol hk7)
        | (at_lookup; refine wpList_lookup_kv rfl _ _ _ _ rfl 2 3 Tryz.underlying83 Tryz.underlying2 (.int .i64 0) zeroI cb _ u rfl rfl HC7.out ?_; rw [HLN.out]))
      have hfree := HGR.out.free HCOL.out
      have HFREE := Lib.hid hfree
      have hc00 : ∀ c : Nat, j = 0 → (∀ x : Nat, x < c → (x : Int) ∈ ks) → c = 0 := fun c hj hx => by
        rcases Nat.eq_zero_or_pos c with h | h
        · exact h
        · exfalso
          obtain ⟨v, _, c', h1, _⟩ := (HCOL.out _).1 (hx 0 h)
          have hc : C = [] := List.length_eq_zero_iff.1 (by rw [HGR.out.len, hj])
          rw [hc] at h1
          simp [cget] at h1
      have HC00 := Lib.hid hc00
      clear hfree hc00 HN5 HC5 HC6 HK5 HK56 HK57 HI HFR2 HNX HS HK
      generalize gk = go1 at *
      go_loopw [6, 15] (fun a6 a15 wr => ∃ c : Nat, a6 = .int .i64 (k : Int) ∧ a15 = .int .i64 (c : Int) ∧ c ≤ k + 1 ∧ (∀ x : Nat, x < c → (x : Int) ∈ ks) ∧ Keep (fun _ => False) w7 wr) (fun _ i _ => k + 2 - (intOf i).toNat)
      case atStart => exact ⟨0, rfl, rfl, by omega, fun x hx => absurd hx (Nat.not_lt_zero _), Keep.refl _ _⟩
      case round =>
        obtain ⟨c, rfl, rfl, hck, hall, hk8⟩ := hrel
        have HALL := Lib.hid hall
        have HK8 := Lib.hid hk8
        have hset8 := HSET.out.keep hk8 (fun h => h)
        have hhas := HasI_spec hset8 (c : Int)
        clear hall hk8 hset8
        by_cases hm : (c : Int) ∈ ks
        · rw [show ks.contains (c : Int) = true by simpa using hm] at hhas
          have HHAS := Lib.hid hhas
          have HM := Lib.hid hm
          clear hhas hm
          go_wp2_with (first
            | (((with_reducible refine (HHAS.out).mono ?_); rintro e w9 ⟨rfl, hk9⟩); have HK9 := Lib.hid (HK8.out.trans hk9 (fun _ _ h => h)); clear hk9))
          go_roundw
          case measure => simp [intOf]; omega
          case rel => exact ⟨c + 1, rfl, by go_num, by (have : c ≠ k + 1 := fun e => HFREE.out (by rw [← e]; exact HM.out); omega), fun x hx => by
            rcases Nat.lt_succ_iff_lt_or_eq.1 hx with h | rfl
            · exact HALL.out x h
            · exact HM.out, HK9.out⟩
        · rw [show ks.contains (c : Int) = false by simpa using hm] at hhas
          have HHAS := Lib.hid hhas
          have HM := Lib.hid hm
          clear hhas hm
          have hput := HGR.out.put HUG.out HUM.out HUN.out HGI.out HCOL.out HM.out hck
          have HPUT := Lib.hid hput
          have hcz := HC00.out c
          have HCZ := Lib.hid (fun h => hcz h HALL.out)
          clear hput hcz
          go_wp2_with (first
            | (((with_reducible refine (HHAS.out).mono ?_); rintro e w9 ⟨rfl, hk9⟩); have HK79 := Lib.hid (HK8.out.trans hk9 (fun _ _ h => h)); have HN9 := Lib.hid (HO.out.keep _ _ _ _ _ HN7.out HK79.out); have HC9 := Lib.hid (HO.out.col _ _ _ _ HN9.out); have HK9 := Lib.hid (HK7.out.trans HK79.out (fun _ _ h => h.elim)); clear hk9)
            | (at_mapUpdate; refine wpList_update_kv rfl _ _ _ _ rfl 2 3 Tryz.underlying83 Tryz.underlying2 cb _ u (.int .i64 (c : Int)) rfl rfl rfl HC9.out ?_; intro w10 h1 h2 h3; rw [kput_ckv] at h1; have HS10 := Lib.hid (HO.out.put _ _ _ _ _ c HN9.out h2 h1); have HK10 := Lib.hid (HK9.out.trans h2 (fun b _ h => .inl h)); clear h1 h2 h3))
          all_goals go_roundg (go1 - 1)
          all_goals first
            | (have := HGK.out; omega)
            | (have hif : (if k < c then c else k) = c := if_pos (by omega)
               have hp := HPUT.out
               rw [hif] at hp
               exact ⟨j + 1, c, cput C u c, by rfl, by rfl, by have := HGK.out; omega, by omega, HS10.out, hp, fun h => absurd h (by omega), fun _ => by rcases Nat.eq_zero_or_pos j with h | h; (have := HCZ.out h; omega); (have := hk1 h; omega), HK10.out⟩)
            | (have hif : (if k < c then c else k) = k := if_neg (by omega)
               have hp := HPUT.out
               rw [hif] at hp
               exact ⟨j + 1, k, cput C u c, by rfl, by rfl, by have := HGK.out; omega, by omega, HS10.out, hp, fun h => absurd h (by omega), fun _ => by rcases Nat.eq_zero_or_pos j with h | h; (have := hk0 h; omega); (have := hk1 h; omega), HK10.out⟩)
    · obtain rfl : j = n := by omega
      have hst := HO.out.stop wr C (by rw [← HNN.out]; exact hs)
      have HSTP := Lib.hid hst
      clear hst hs hgr hk hgk
      go_wp2_with (first
        | (((with_reducible refine (HSTP.out).mono ?_); rintro e w4 ⟨rfl, hc4, hk4⟩); have HC4 := Lib.hid hc4; have HK4 := Lib.hid (HK.out.trans hk4 (fun b _ h => .inr h)); clear hc4 hk4))
      go_ret2
      refine ⟨k, C, by simp, by rw [← HNN.out]; exact HGR.out, by rw [← HNN.out]; exact hk1 hn, HC4.out, HK4.out⟩
end Go.Proofs.YtdaccgelmcmfjaaGreatDoor
end
/- (*saturationDegreeIterator).Node, Next, whatever the heuristic: each call hands out a node without a colour. -/
section
namespace Go.Proofs.YtdaccgelmcmfjaaGreatDoor
open Go.RowKit Go.V
abbrev heurX (fH : FuncId) (s : SG) : Value := .func (.func fH) #[s.ptr] #[]
structure GX (fH : FuncId) (wk : Value) (w : World) (s : SG) (pb cb base top : Nat) (cnt curr : Int) (C : PC) : Prop where
  sat : Sat w s pb cnt curr (heurX fH s) (.map (some cb)) wk
  adj : AdjW w s base top
  deg : DegN w s
  col : ColAt w cb C
  l1 : s.sb < top
  l2 : s.nb < base
  l3 : s.ib < base
  l4 : s.db < base
  l5 : s.ab < base
  l6 : cb < base
  l7 : base ≤ top
  l8 : top ≤ w.heap.size
  ne : cb ≠ s.ib ∧ cb ≠ s.nb
section
variable {fH : FuncId} {wk : Value} {w w' : World} {s : SG} {pb cb base top : Nat} {cnt curr : Int} {C : PC}
theorem GX.keep {S : Nat → Prop} (h : GX fH wk w s pb cb base top cnt curr C) (hk : Keep S w w') (hS : ∀ b, S b → top ≤ b) : GX fH wk w' s pb cb base top cnt curr C := by
  have h1 := h.l1; have h2 := h.l2; have h3 := h.l3; have h4 := h.l4; have h5 := h.l5; have h6 := h.l6; have h7 := h.l7
  have hn : ∀ b, b < top → ¬ S b := fun b hb e => by have := hS b e; omega
  exact ⟨((h.sat).keep hk (hn _ h1) (hn _ (by omega)) (hn _ (by omega)) (hn _ (by omega)) (hn _ (by omega))), (fun i hi => let ⟨a, ks, x, y, z⟩ := h.adj i hi; ⟨a, ks, by rw [hk.cell (a := ⟨s.ab, i, none⟩) (World.block_lt_of_cell? _ _ x) (hn _ (by show s.ab < top; omega))]; exact x, y.keep hk (hn a z.2), z⟩),
    (fun i hi => let ⟨d, x⟩ := h.deg i hi; ⟨d, by rw [hk.cell (a := ⟨s.db, i, none⟩) (World.block_lt_of_cell? _ _ x) (hn _ (by show s.db < top; omega))]; exact x⟩), h.col.keep hk (hn _ (by omega)), h1, h2, h3, h4, h5, h6, h7, Nat.le_trans h.l8 hk.size, h.ne⟩
theorem GX.keepF (h : GX fH wk w s pb cb base top cnt curr C) (hk : Keep (fun _ => False) w w') : GX fH wk w' s pb cb base top cnt curr C := h.keep hk (fun _ h => h.elim)
theorem GX.cells (h : GX fH wk w s pb cb base top cnt curr C) : w.cell? ⟨s.sb, 0, none⟩ = some (.int .i64 cnt) ∧ w.cell? ⟨s.sb, 1, none⟩ = some (.int .i64 curr) ∧ w.cell? ⟨s.sb, 2, none⟩ = some (heurX fH s) ∧ w.cell? ⟨s.sb, 3, none⟩ = some s.nodesV ∧ w.cell? ⟨s.sb, 4, none⟩ = some (.map (some s.ib)) ∧
    w.cell? ⟨s.sb, 5, none⟩ = some (.slice (some ⟨s.db, 0, none⟩) s.l.length s.l.length) ∧ w.cell? ⟨s.sb, 6, none⟩ = some (.slice (some ⟨s.ab, 0, none⟩) s.l.length s.l.length) ∧ w.cell? ⟨s.sb, 7, none⟩ = some (gV pb) ∧ w.cell? ⟨s.sb, 8, none⟩ = some (.map (some cb)) ∧
    w.frozen? ⟨s.sb, 0, none⟩ = false ∧ w.frozen? ⟨s.sb, 1, none⟩ = false := by
  have a := h.sat
  refine ⟨?_, ?_, ?_, ?_, ?_, ?_, ?_, ?_, ?_, free_of a.head 0, free_of a.head 1⟩ <;> (rw [cell_of a.head]; rfl)
theorem GX.small (h : GX fH wk w s pb cb base top cnt curr C) : s.l.length ≤ 1000 := h.sat.small
theorem GX.node (h : GX fH wk w s pb cb base top cnt curr C) {i : Nat} {u : Int} (hu : s.l[i]? = some u) : w.cell? ⟨s.nb, s.noff + i, none⟩ = some (nodeV u) := h.sat.node hu
theorem GX.lookup (h : GX fH wk w s pb cb base top cnt curr C) {i : Nat} {u : Int} (hu : s.l[i]? = some u) : (Instr.lookup 83 (.map (some s.ib)) (.int .i64 u) false).run Tryz.prog w = .ok (.int .i64 (i : Int)) w := by
  have a := h.sat
  obtain ⟨IX, hx, hx2⟩ := a.idx
  have := run_lookup_int Tryz.underlying83 Tryz.underlying2 hx u (zeroI w) false
  rw [this, kget_ckv, hx2 i u hu]; rfl
theorem GX.colNe (h : GX fH wk w s pb cb base top cnt curr C) : cb ≠ s.sb := by
  have a := h.sat
  exact (a.colNe h.col).1
theorem GX.ibNe (h : GX fH wk w s pb cb base top cnt curr C) : s.ib ≠ s.sb := by
  have a := h.sat
  obtain ⟨IX, b, _⟩ := a.idx
  exact MapAt.ne_cells b a.head
theorem GX.head (h : GX fH wk w s pb cb base top cnt curr C) (hk : Keep (fun b => b = s.sb) w w') {cnt' curr' : Int} (hh : w.heap[s.sb]? = some (.cells #[.int .i64 cnt, .int .i64 curr, heurX fH s, s.nodesV, .map (some s.ib), .slice (some ⟨s.db, 0, none⟩) s.l.length s.l.length, .slice (some ⟨s.ab, 0, none⟩) s.l.length s.l.length, gV pb, .map (some cb), wk] 138 (0, 0)) →
      w'.heap[s.sb]? = some (.cells #[.int .i64 cnt', .int .i64 curr', heurX fH s, s.nodesV, .map (some s.ib), .slice (some ⟨s.db, 0, none⟩) s.l.length s.l.length, .slice (some ⟨s.ab, 0, none⟩) s.l.length s.l.length, gV pb, .map (some cb), wk] 138 (0, 0))) : GX fH wk w' s pb cb base top cnt' curr' C := by
  have hib := h.ibNe
  have a := h.sat
  refine ⟨⟨hh a.head, a.nodes.keep hk a.n1, a.small, ?_, ?_, ?_, a.n1, a.n2, a.n3, a.n4, a.n5, Nat.lt_of_lt_of_le a.nbl hk.size⟩, fun i hi => ?_, fun i hi => ?_, h.col.keep hk h.colNe, h.l1, h.l2, h.l3, h.l4, h.l5, h.l6, h.l7, Nat.le_trans h.l8 hk.size, h.ne⟩
  · obtain ⟨IX, x, y⟩ := a.idx; exact ⟨IX, x.keep hk hib, y⟩
  · obtain ⟨cs, x, y⟩ := a.deg; exact ⟨cs, hk.get x a.n2, y⟩
  · obtain ⟨cs, x, y⟩ := a.adj; exact ⟨cs, hk.get x a.n3, y⟩
  · obtain ⟨b, ks, x, y, z⟩ := h.adj i hi
    exact ⟨b, ks, by rw [hk.cell (a := ⟨s.ab, i, none⟩) (World.block_lt_of_cell? _ _ x) a.n3]; exact x, y.keep hk (show ¬ b = s.sb from MapAt.ne_cells y a.head), z⟩
  · obtain ⟨d, x⟩ := h.deg i hi
    exact ⟨d, by rw [hk.cell (a := ⟨s.db, i, none⟩) (World.block_lt_of_cell? _ _ x) a.n2]; exact x⟩
theorem GX.setCnt (h : GX fH wk w s pb cb base top cnt curr C) (x : Int) : GX fH wk (w.setCell ⟨s.sb, 0, none⟩ (.int .i64 x)) s pb cb base top x curr C :=
  h.head ((Keep.refl _ _).setCell (a := ⟨s.sb, 0, none⟩) _ (fun _ => rfl)) fun hw => by rw [heapV_setCell hw]; rfl
theorem GX.setCurr (h : GX fH wk w s pb cb base top cnt curr C) (x : Int) : GX fH wk (w.setCell ⟨s.sb, 1, none⟩ (.int .i64 x)) s pb cb base top cnt x C :=
  h.head ((Keep.refl _ _).setCell (a := ⟨s.sb, 1, none⟩) _ (fun _ => rfl)) fun hw => by rw [heapV_setCell hw]; rfl
theorem GX.add (h : GX fH wk w s pb cb base top cnt curr C) {a : Nat} {ks : List Int} (ha : base ≤ a ∧ a < top) (hne : a ≠ s.sb) (hk : Keep (fun b => b = a) w w') (hs : SetAt w' a ks) : GX fH wk w' s pb cb base top cnt curr C := by
  have h2 := h.l2; have h3 := h.l3; have h4 := h.l4; have h5 := h.l5; have h6 := h.l6
  have x := h.sat
  refine ⟨x.keep hk (fun e => hne e.symm) (by omega) (by omega) (by omega) (by omega), fun i hi => ?_, fun i hi => ?_, h.col.keep hk (show ¬ cb = a by omega), h.l1, h.l2, h.l3, h.l4, h.l5, h.l6, h.l7, Nat.le_trans h.l8 hk.size, h.ne⟩
  · obtain ⟨b, qs, p, q, r⟩ := h.adj i hi
    have p' : w'.cell? ⟨s.ab, i, none⟩ = some (.map (some b)) := by rw [hk.cell (a := ⟨s.ab, i, none⟩) (World.block_lt_of_cell? _ _ p) (show ¬ s.ab = a by omega)]; exact p
    by_cases e : b = a
    · subst e; exact ⟨b, ks, p', hs, r⟩
    · exact ⟨b, qs, p', q.keep hk e, r⟩
  · obtain ⟨d, p⟩ := h.deg i hi
    exact ⟨d, by rw [hk.cell (a := ⟨s.db, i, none⟩) (World.block_lt_of_cell? _ _ p) (show ¬ s.db = a by omega)]; exact p⟩
theorem GX.recol (h : GX fH wk w s pb cb base top cnt curr C) {C' : PC} (hk : Keep (fun b => b = cb) w w') (hc : ColAt w' cb C') : GX fH wk w' s pb cb base top cnt curr C' := by
  have h2 := h.l2; have h3 := h.l3; have h4 := h.l4; have h5 := h.l5; have h6 := h.l6
  have hne := h.colNe
  obtain ⟨n1, n2⟩ := h.ne
  have x := h.sat
  have n3 : cb ≠ s.db := by obtain ⟨cs, a, _⟩ := x.deg; exact MapAt.ne_cells h.col a
  have n4 : cb ≠ s.ab := by obtain ⟨cs, a, _⟩ := x.adj; exact MapAt.ne_cells h.col a
  refine ⟨x.keep hk (Ne.symm hne) (Ne.symm n2) (Ne.symm n1) (Ne.symm n3) (Ne.symm n4), fun i hi => ?_, fun i hi => ?_, hc, h.l1, h.l2, h.l3, h.l4, h.l5, h.l6, h.l7, Nat.le_trans h.l8 hk.size, h.ne⟩
  · obtain ⟨b, qs, p, q, r⟩ := h.adj i hi
    exact ⟨b, qs, by rw [hk.cell (a := ⟨s.ab, i, none⟩) (World.block_lt_of_cell? _ _ p) (Ne.symm n4)]; exact p, q.keep hk (show ¬ b = cb by omega), r⟩
  · obtain ⟨d, p⟩ := h.deg i hi
    exact ⟨d, by rw [hk.cell (a := ⟨s.db, i, none⟩) (World.block_lt_of_cell? _ _ p) (Ne.symm n3)]; exact p⟩
theorem GX.set (h : GX fH wk w s pb cb base top cnt curr C) {i : Nat} (hi : i < s.l.length) : ∃ a ks, w.cell? ⟨s.ab, i, none⟩ = some (.map (some a)) ∧ SetAt w a ks ∧ (base ≤ a ∧ a < top) ∧ a ≠ s.sb := by
  obtain ⟨a, ks, x, y, z⟩ := h.adj i hi
  have b := h.sat
  exact ⟨a, ks, x, y, z, MapAt.ne_cells y b.head⟩
end
set_option maxHeartbeats 8000000 in
set_option maxRecDepth 20000 in
theorem satNodeX {fH : FuncId} {wk : Value} {w : World} {s : SG} {pb cb base top i : Nat} {cnt : Int} {C : PC} {u : Int} (h : GX fH wk w s pb cb base top cnt (i : Int) C) (hu : s.l[i]? = some u) :
    Calls Tryz.prog 276 #[.pointer (some ⟨s.sb, 0, none⟩)] w fun e w' => e = .returned (nodeV u) ∧ ∃ n, w' = w.drewN n := by
  obtain ⟨c0, c1, c2, c3, c4, c5, c6, c7, c8, f0, f1⟩ := h.cells
  have cn := h.node hu
  have hsm := h.small
  have hil : i < s.l.length := (List.getElem?_eq_some_iff.1 hu).1
  unfold SG.nodesV at c3
  clear c0 c2 c4 c5 c6 c7 c8 f0 f1 h
  generalize s.l.length = n at *
  go_enter Tryz.func276, Tryz.ntmps276
  go_wp2_with fail
  go_quiet (fail)
  go_wp2_with fail
  go_ret
  exact ⟨rfl, _, rfl⟩
def NextX (fH : FuncId) (wk : Value) (w : World) (s : SG) (pb cb base top : Nat) (C : PC) (k : Nat) (e : Ending) (w' : World) : Prop :=
  ∃ (i : Nat) (u : Int), e = .returned (.bool true) ∧ s.l[i]? = some u ∧ cget C u = none ∧ GX fH wk w' s pb cb base top (k : Int) (i : Int) C ∧ Keep (fun b => b = s.sb ∨ (base ≤ b ∧ b < top)) w w'
set_option maxHeartbeats 8000000 in
set_option maxRecDepth 100000 in
theorem satNextX_first {fH : FuncId} {wk : Value} {w : World} {s : SG} {pb cb base top : Nat} (h : GX fH wk w s pb cb base top (-1) (-1) []) (hn : 0 < s.l.length) :
    Calls Tryz.prog 275 #[.pointer (some ⟨s.sb, 0, none⟩)] w (NextX fH wk w s pb cb base top [] 0) := by
  unfold NextX
  obtain ⟨c0, c1, c2, c3, c4, c5, c6, c7, c8, f0, f1⟩ := h.cells
  have hsm := h.small
  have hcell : ∀ W cnt curr, GX fH wk W s pb cb base top cnt curr [] → W.cell? ⟨s.sb, 1, none⟩ = some (.int .i64 curr) ∧ W.frozen? ⟨s.sb, 1, none⟩ = false ∧ ∀ i, i < s.l.length → ∃ d : Nat, W.cell? ⟨s.db, i, none⟩ = some (.int .i64 (d : Int)) := fun W cnt curr h => by
    obtain ⟨c0, c1, c2, c3, c4, c5, c6, c7, c8, f0, f1⟩ := h.cells
    exact ⟨c1, f1, h.deg⟩
  have hstart : ∀ q, GX fH wk ((w.drewN q).setCell ⟨s.sb, 0, none⟩ (.int .i64 0)) s pb cb base top 0 (-1) [] ∧ Keep (fun b => b = s.sb) w ((w.drewN q).setCell ⟨s.sb, 0, none⟩ (.int .i64 0)) := fun q =>
    ⟨(h.keepF ((Keep.refl _ w).drewN q)).setCnt 0, ((Keep.refl (fun b => b = s.sb) w).drewN q).setCell (a := ⟨s.sb, 0, none⟩) _ (fun _ => rfl)⟩
  have hnode : ∀ i, i < s.l.length → ∃ u, s.l[i]? = some u := fun i hi => ⟨_, List.getElem?_eq_getElem hi⟩
  unfold SG.nodesV at c3
  have HCELL := Lib.hid hcell
  have HSTART := Lib.hid hstart
  have HNODE := Lib.hid hnode
  clear h hcell hstart hnode c2 c4 c6 c7 c8
  generalize hnn : s.l.length = n at *
  have HNN := Lib.hid hnn
  clear hnn
  have e0 : IntKind.u64.wrap (IntKind.u64.wrap (-1) + 1) = 0 := by decide
  have e1 : (0 : Int) < (n : Int) := by omega
  go_enter Tryz.func275, Tryz.ntmps275
  go_wp2_with fail
  go_quiet (fail)
  go_wp2_with fail
  obtain ⟨hg, hk⟩ := HSTART.out nq
  have HG := Lib.hid hg
  have HK := Lib.hid hk
  clear hg hk HSTART e0 c0 c1 c3 c5 f0 f1
  go_loopw [3, 99] (fun mx i wr => ∃ (j : Nat) (x curr : Int), i = .int .i64 (j : Int) ∧ mx = .int .i64 x ∧ j ≤ n ∧ GX fH wk wr s pb cb base top 0 curr [] ∧ ((j = 0 ∧ x = -1) ∨ ∃ c : Nat, c < n ∧ curr = (c : Int)) ∧ Keep (fun b => b = s.sb) w wr) (fun _ i _ => n - (intOf i).toNat)
  case atStart => exact ⟨0, -1, -1, rfl, rfl, Nat.zero_le _, HG.out, .inl ⟨rfl, rfl⟩, HK.out⟩
  case round =>
    clear HG HK
    obtain ⟨j, x, curr, rfl, rfl, hjn, hg, hor, hk⟩ := hrel
    obtain ⟨c1, f1, hd⟩ := HCELL.out _ _ _ hg
    have HSET := Lib.hid (hg.setCurr (j : Int))
    have HKSET := Lib.hid (hk.setCell (a := ⟨s.sb, 1, none⟩) (.int .i64 (j : Int)) (fun _ => rfl))
    have HG := Lib.hid hg
    have HK := Lib.hid hk
    have HOR := Lib.hid hor
    clear hg hk hor
    by_cases hlt : j < n
    · obtain ⟨d, cd⟩ := hd j hlt
      clear hd
      go_wp2_with fail
      all_goals go_roundw
      all_goals first
        | (simp [intOf]; omega)
        | exact ⟨j + 1, _, _, by go_num, rfl, by omega, HSET.out, .inr ⟨j, hlt, rfl⟩, HKSET.out⟩
        | exact ⟨j + 1, _, _, by go_num, rfl, by omega, HG.out, HOR.out.elim (fun h => absurd h.2 (by omega)) (fun h => .inr h), HK.out⟩
    · obtain rfl : j = n := by omega
      obtain ⟨c, hc, rfl⟩ : ∃ c : Nat, c < j ∧ curr = (c : Int) := by
        rcases HOR.out with ⟨h1, _⟩ | h
        · exfalso; omega
        · exact h
      obtain ⟨u, hu⟩ := HNODE.out c hc
      have HU := Lib.hid hu
      clear hu hd HOR
      go_wp2_with fail
      go_ret
      exact ⟨c, u, rfl, HU.out, by simp [cget], HG.out, HK.out.mono (fun b _ h => .inl h)⟩
set_option maxHeartbeats 8000000 in
set_option maxRecDepth 100000 in
theorem satNextX_more {fH : FuncId} {wk : Value} {B : Nat} {w : World} {G : PG} {s : SG} {pb cb base top m i : Nat} {C : PC} {u : Int} {c : Nat} (h : GX fH wk w s pb cb base top (m : Int) (i : Int) C) (hG : Plain B w pb G) (hU : UG G) (hl : ∀ u, u ∈ s.l ↔ u ∈ G.ids) (hu : s.l[i]? = some u) (hc : cget C u = some c) (hm : m + 1 < s.l.length) (hB : B ≤ s.sb ∧ B ≤ base) {Y : Value → Prop} (eH : ∀ args w, (callFunc fH args).run Tryz.prog w = .ok (.enter fH args) w)
    (hheur : ∀ W cnt curr, GX fH wk W s pb cb base top cnt curr C → Keep (fun b => b = s.sb ∨ (base ≤ b ∧ b < top)) w W → Calls Tryz.prog fH #[.pointer (some ⟨s.sb, 3, none⟩)] W fun e w' => ∃ (i2 : Nat) (u2 : Int) (wk' : Value), e = .returned (.int .i64 (i2 : Int)) ∧ s.l[i2]? = some u2 ∧ cget C u2 = none ∧ GX fH wk' w' s pb cb base top cnt curr C ∧ Y wk' ∧ Keep (fun b => b = s.sb) W w') :
    Calls Tryz.prog 275 #[.pointer (some ⟨s.sb, 0, none⟩)] w (fun e w' => ∃ wk', Y wk' ∧ NextX fH wk' w s pb cb base top C (m + 1) e w') := by
  unfold NextX
  obtain ⟨c0, c1, c2, c3, c4, c5, c6, c7, c8, f0, f1⟩ := h.cells
  have hsm := h.small
  have hl8 := h.l8
  have hnf := nilFrom pb
  have hcell : ∀ wk W cnt curr, GX fH wk W s pb cb base top cnt curr C → W.cell? ⟨s.sb, 1, none⟩ = some (.int .i64 curr) ∧ W.cell? ⟨s.sb, 2, none⟩ = some (.func (.func fH) #[.pointer (some ⟨s.sb, 3, none⟩)] #[]) ∧ W.cell? ⟨s.sb, 4, none⟩ = some (.map (some s.ib)) ∧ W.cell? ⟨s.sb, 6, none⟩ = some (.slice (some ⟨s.ab, 0, none⟩) s.l.length s.l.length) ∧ W.cell? ⟨s.sb, 7, none⟩ = some (gV pb) ∧ W.cell? ⟨s.sb, 8, none⟩ = some (.map (some cb)) ∧ W.frozen? ⟨s.sb, 1, none⟩ = false := fun wk W cnt curr h => by
    obtain ⟨c0, c1, c2, c3, c4, c5, c6, c7, c8, f0, f1⟩ := h.cells
    exact ⟨c1, c2, c4, c6, c7, c8, f1⟩
  have hstart : ∀ q, GX fH wk ((w.drewN q).setCell ⟨s.sb, 0, none⟩ (.int .i64 ((m : Int) + 1))) s pb cb base top ((m : Int) + 1) (i : Int) C ∧ Keep (fun b => b = s.sb ∨ (base ≤ b ∧ b < top)) w ((w.drewN q).setCell ⟨s.sb, 0, none⟩ (.int .i64 ((m : Int) + 1))) := fun q =>
    ⟨(h.keepF ((Keep.refl _ w).drewN q)).setCnt _, ((Keep.refl (fun b => b = s.sb ∨ (base ≤ b ∧ b < top)) w).drewN q).setCell (a := ⟨s.sb, 0, none⟩) _ (fun _ => .inl rfl)⟩
  have hP : ∀ W, Keep (fun b => b = s.sb ∨ (base ≤ b ∧ b < top)) w W → Plain B W pb G := fun W hk => hG.keep hk (fun b hb => by omega)
  obtain ⟨gi, hgi⟩ := List.mem_iff_getElem?.1 ((hl u).1 (List.mem_of_getElem? hu))
  have hnl := PG.nbr_length hU.ok hgi
  have hfr : ∀ W, Keep (fun b => b = s.sb ∨ (base ≤ b ∧ b < top)) w W → Calls Tryz.prog 257 #[uV pb, .int .i64 u] W fun e w' => ∃ it g, e = .returned (.iface 284 (.pointer (some ⟨it, 0, none⟩))) ∧ Iter w' it g ((G.nbr gi).map nodeV) 0 ∧ W.heap.size ≤ it ∧ W.heap.size ≤ g ∧ Keep (fun _ => False) W w' := fun W hk => From_any (hP W hk) hgi W (Keep.refl _ _)
  have hidx : ∀ v ∈ G.nbr gi, ∃ j, j < s.l.length ∧ ∀ (W : World) (cnt curr : Int), GX fH wk W s pb cb base top cnt curr C → (Instr.lookup 83 (.map (some s.ib)) (.int .i64 v) false).run Tryz.prog W = .ok (.int .i64 (j : Int)) W := fun v hv => by
    obtain ⟨j, hj⟩ := List.mem_iff_getElem?.1 ((hl v).2 (PG.adj_mem ((PG.mem_nbr hU.ok hgi v).1 hv)).2)
    exact ⟨j, (List.getElem?_eq_some_iff.1 hj).1, fun W cnt curr hg => hg.lookup hj⟩
  have hds : ∀ W cnt curr, GX fH wk W s pb cb base top cnt curr C → Keep (fun b => b = s.sb ∨ (base ≤ b ∧ b < top)) w W → Calls Tryz.prog fH #[.pointer (some ⟨s.sb, 3, none⟩)] W fun e w' => ∃ (i2 : Nat) (u2 : Int) (wk' : Value), e = .returned (.int .i64 (i2 : Int)) ∧ s.l[i2]? = some u2 ∧ cget C u2 = none ∧ i2 ≠ i ∧ GX fH wk' w' s pb cb base top cnt curr C ∧ Y wk' ∧ Keep (fun b => b = s.sb) W w' := fun W cnt curr hg hk => by
    refine (hheur W cnt curr hg hk).mono ?_
    rintro e w' ⟨i2, u2, wk', rfl, h1, h2, h3, h4, h5⟩
    exact ⟨i2, u2, wk', rfl, h1, h2, (fun e => by subst e; rw [hu] at h1; cases h1; rw [hc] at h2; cases h2), h3, h4, h5⟩
  have hg0 : kget (ckv C) u = some (.int .i64 (c : Int)) := by rw [kget_ckv, hc]; rfl
  have hnode := fun W cnt (hg : GX fH wk W s pb cb base top cnt (i : Int) C) => satNodeX hg hu
  have HCELL := Lib.hid hcell
  have HSTART := Lib.hid hstart
  have HFR := Lib.hid hfr
  have HIDX := Lib.hid hidx
  have HDS := Lib.hid hds
  have HG0 := Lib.hid hg0
  have HNODE := Lib.hid hnode
  unfold SG.nodesV at c3
  clear h hcell hstart hP hfr hidx hds hg0 hnode c1 c2 c4 c5 c6 c7 c8 hG hU hl hu hc hheur
  have hmn : s.l.length ≤ 1000 := hsm
  have d1 : (((m : Int) + 1) == 0) = false := by simp; omega
  go_enter Tryz.func275, Tryz.ntmps275
  generalize hnn : s.l.length = n at *
  go_wp2_with fail
  go_quiet (fail)
  go_upto_region 4 with fail
  obtain ⟨hg, hk⟩ := HSTART.out nq
  generalize ((w.drewN nq).setCell ⟨s.sb, 0, none⟩ (.int .i64 ((m : Int) + 1))) = w1 at *
  obtain ⟨c1, c2, c4, c6, c7, c8, f1⟩ := HCELL.out _ _ _ _ hg
  have HG := Lib.hid hg
  have HK := Lib.hid hk
  clear hg hk HSTART c0 c3 f0
  go_wp2_with (first
    | (((with_reducible refine (HNODE.out _ _ HG.out).mono ?_); rintro e w2 ⟨rfl, q, rfl⟩))
    | (((with_reducible refine (ID_at _ _).mono ?_); rintro e w3 ⟨rfl, rfl⟩))
    | (at_lookup; refine wpList_lookup_kv rfl _ _ _ _ rfl 2 3 Tryz.underlying83 Tryz.underlying2 (.int .i64 0) zeroI cb _ u rfl rfl (HG.out.col.keepF ((Keep.refl _ w1).drewN q)) ?_; rw [HG0.out])
    | (((with_reducible refine (HFR.out _ (HK.out.drewN q)).mono ?_); rintro e w3 ⟨it, g, rfl, hi, h1, h2, hk3⟩); have HI := Lib.hid hi; have HK3 := Lib.hid ((HK.out.drewN q).trans hk3 (fun _ _ h => h.elim)); have HG3 := Lib.hid ((HG.out.keepF ((Keep.refl _ w1).drewN q)).keepF hk3); have htop : w.heap.size ≤ it ∧ w.heap.size ≤ g := (by have := HK.out.size; have h1' : w1.heap.size ≤ it := h1; have h2' : w1.heap.size ≤ g := h2; omega); clear hi hk3 h1 h2 c1 c2 c4 c6 c7 c8 f1))
  obtain ⟨ht1, ht2⟩ := htop
  clear HG HK HNODE HFR HG0
  generalize hmm : G.nbr gi = nb at *
  clear hmm
  go_loopg [] (nb.length + 1) (fun gk wr => ∃ t : Nat, t + gk = nb.length + 1 ∧ t ≤ nb.length ∧ Iter wr it g (nb.map nodeV) t ∧ GX fH wk wr s pb cb base top ((m : Int) + 1) (i : Int) C ∧ Keep (fun b => b = s.sb ∨ (base ≤ b ∧ b < top)) w wr)
  case atStart => exact ⟨0, by omega, by omega, HI.out, HG3.out, HK3.out⟩
  case round =>
    obtain ⟨t, hgk, htm, hi, hg, hk⟩ := hrel
    clear HI HG3 HK3
    have HI := Lib.hid hi
    have HG := Lib.hid hg
    have HK := Lib.hid hk
    have HGK := Lib.hid hgk
    have hl1 := hg.l1
    have hl5 := hg.l5
    clear hi hk hgk hg
    by_cases hlt : t < nb.length
    · obtain ⟨v, hv⟩ : ∃ v, nb[t]? = some v := ⟨_, List.getElem?_eq_getElem hlt⟩
      obtain ⟨j, hj, hlk⟩ := HIDX.out v (List.mem_of_getElem? hv)
      have HV := Lib.hid hv
      have HLK := Lib.hid hlk
      clear hv hlk
      go_upto_region 8 with (first
        | (((with_reducible refine (Next_true HI.out hlt).mono ?_); rintro e w4 ⟨rfl, hi4, hk4, hs4⟩); have hg4 := HG.out.keep hk4 (fun b hb => by omega); obtain ⟨c1, c2, c4, c6, c7, c8, f1⟩ := HCELL.out _ _ _ _ hg4; clear c1 c2 c7 c8 f1; obtain ⟨a, ks, ca, hset, hab, hne⟩ := hg4.set (i := j) (by rw [hnn]; exact hj); have HSET := Lib.hid hset; have HG4 := Lib.hid hg4; have HI4 := Lib.hid hi4; have HK4 := Lib.hid (HK.out.trans hk4 (fun b hb h => by omega)); clear hset hg4 hi4 hk4))
      have hfin : ∀ w6, SetAt w6 a (sadd ks (c : Int)) → Keep (fun b => b = a) w4 w6 → ∃ t' : Nat, t' + (gk - 1) = nb.length + 1 ∧ t' ≤ nb.length ∧ Iter w6 it g (nb.map nodeV) t' ∧ GX fH wk w6 s pb cb base top ((m : Int) + 1) (i : Int) C ∧ Keep (fun b => b = s.sb ∨ (base ≤ b ∧ b < top)) w w6 := fun w6 h6 hk6 =>
        ⟨t + 1, by have := HGK.out; omega, by omega, HI4.out.keep hk6 (by omega) (by omega), HG4.out.add hab hne hk6 h6, HK4.out.trans hk6 (fun b _ h => .inr (by omega))⟩
      have hkd : ∀ q, Keep (fun _ => False) w4 (w4.drewN q) := fun q => (Keep.refl _ w4).drewN q
      have HFIN := Lib.hid hfin
      have HKD := Lib.hid hkd
      have hgp : 0 < gk := by have := HGK.out; omega
      clear hfin hkd
      go_region_with (first
        | (((with_reducible refine (Node_at (HI4.out.keep ((Keep.refl (fun _ => False) w4).drew) (fun h => h) (fun h => h)) HV.out).mono ?_); rintro e w5 ⟨rfl, q, rfl⟩); have hlk := HLK.out _ _ _ (HG4.out.keepF (HKD.out (1 + q))); have HSET2 := Lib.hid (HSET.out.keep (HKD.out (1 + q)) (fun h => h)))
        | (((with_reducible refine (ID_at _ _).mono ?_); rintro e w5 ⟨rfl, rfl⟩))
        | (((with_reducible refine (AddI_spec HSET2.out _).mono ?_); rintro e w6 ⟨rfl, h6, hk6, hs6⟩); have H6 := Lib.hid h6; have HK6 := Lib.hid ((HKD.out (1 + q) |>.mono (T := fun b => b = a) (fun _ _ h => h.elim)).trans hk6 (fun _ _ h => h)); clear h6 hk6 hs6))
      all_goals (go_wp2_with fail)
      all_goals go_roundg (gk - 1)
      all_goals first
        | exact HFIN.out _ H6.out HK6.out
        | omega
    · obtain rfl : t = nb.length := by omega
      go_wp2_with (first
        | (((with_reducible refine (Next_false HI.out).mono ?_); rintro e w4 ⟨rfl, hk4, hs4⟩); have hg4 := HG.out.keep hk4 (fun b hb => by omega); obtain ⟨c1, c2, c4, c6, c7, c8, f1⟩ := HCELL.out _ _ _ _ hg4; clear c1 c4 c6 c7 c8 f1; have HG4 := Lib.hid hg4; have HK4 := Lib.hid (HK.out.trans hk4 (fun b hb h => by omega)); clear hg4 hk4)
        | (((with_reducible refine (HDS.out _ _ _ HG4.out HK4.out).mono ?_); rintro e w5 ⟨i2, u2, wk5, rfl, h1, h2, h3, hg5, hy5, hk5⟩); have HY5 := Lib.hid hy5; obtain ⟨c1, c2, c4, c6, c7, c8, f1⟩ := HCELL.out _ _ _ _ hg5; clear c2 c4 c6 c7 c8; have HG5 := Lib.hid hg5; have HK5 := Lib.hid (HK4.out.trans hk5 (fun _ _ h => .inl h)); have HU2 := Lib.hid h1; have HN2 := Lib.hid h2; have d2 : ((i2 : Int) == (i : Int)) = false := (by rw [beq_eq_false_iff_ne]; omega); have d3 : decide ((i2 : Int) < 0) = false := (by rw [decide_eq_false_iff_not]; omega); clear hg5 hk5 h1 h2 hy5))
      go_ret
      exact ⟨wk5, HY5.out, i2, u2, rfl, HU2.out, HN2.out, by have := HG5.out.setCurr (i2 : Int); rw [show ((m + 1 : Nat) : Int) = (m : Int) + 1 by omega]; exact this, HK5.out.setCell (a := ⟨s.sb, 1, none⟩) _ (fun _ => .inl rfl)⟩
set_option maxHeartbeats 8000000 in
set_option maxRecDepth 100000 in
theorem satNextX_last {fH : FuncId} {wk : Value} {w : World} {s : SG} {pb cb base top m : Nat} {C : PC} {curr : Int} (h : GX fH wk w s pb cb base top (m : Int) curr C) (hn : s.l.length = m + 1) :
    Calls Tryz.prog 275 #[.pointer (some ⟨s.sb, 0, none⟩)] w fun e w' => e = .returned (.bool false) ∧ (∃ cnt, GX fH wk w' s pb cb base top cnt curr C) ∧ Keep (fun b => b = s.sb) w w' := by
  obtain ⟨c0, c1, c2, c3, c4, c5, c6, c7, c8, f0, f1⟩ := h.cells
  have hsm := h.small
  have hstart : ∀ (q : Nat) (x : Int), (∃ cnt, GX fH wk ((w.drewN q).setCell ⟨s.sb, 0, none⟩ (.int .i64 x)) s pb cb base top cnt curr C) ∧ Keep (fun b => b = s.sb) w ((w.drewN q).setCell ⟨s.sb, 0, none⟩ (.int .i64 x)) := fun q x =>
    ⟨⟨_, (h.keepF ((Keep.refl _ w).drewN q)).setCnt x⟩, ((Keep.refl (fun b => b = s.sb) w).drewN q).setCell (a := ⟨s.sb, 0, none⟩) _ (fun _ => rfl)⟩
  unfold SG.nodesV at c3
  have HSTART := Lib.hid hstart
  clear h hstart c1 c2 c4 c5 c6 c7 c8
  generalize hnn : s.l.length = n at *
  subst hn
  clear hnn
  go_enter Tryz.func275, Tryz.ntmps275
  go_wp2_with fail
  go_quiet (fail)
  go_wp2_with fail
  go_ret
  exact ⟨rfl, (HSTART.out _ _).1, (HSTART.out _ _).2⟩
end Go.Proofs.YtdaccgelmcmfjaaGreatDoor
end
/- (*saturationDegree).pass where one node alone has no colour: that one. -/
section
namespace Go.Proofs.YtdaccgelmcmfjaaGreatDoor
open Go.RowKit Go.V
section
variable {fH : FuncId} {wk : Value} {w w' : World} {s : SG} {pb cb base top : Nat} {cnt curr : Int} {C : PC}
theorem GX.setWk (h : GX fH wk w s pb cb base top cnt curr C) (v : Value) : GX fH v (w.setCell ⟨s.sb, 9, none⟩ v) s pb cb base top cnt curr C := by
  have hib := h.ibNe
  have a := h.sat
  have hk : Keep (fun b => b = s.sb) w (w.setCell ⟨s.sb, 9, none⟩ v) := (Keep.refl _ _).setCell (a := ⟨s.sb, 9, none⟩) _ (fun _ => rfl)
  refine ⟨⟨by rw [heapV_setCell a.head]; rfl, a.nodes.keep hk a.n1, a.small, ?_, ?_, ?_, a.n1, a.n2, a.n3, a.n4, a.n5, Nat.lt_of_lt_of_le a.nbl hk.size⟩, fun i hi => ?_, fun i hi => ?_, h.col.keep hk h.colNe, h.l1, h.l2, h.l3, h.l4, h.l5, h.l6, h.l7, Nat.le_trans h.l8 hk.size, h.ne⟩
  · obtain ⟨IX, x, y⟩ := a.idx; exact ⟨IX, x.keep hk hib, y⟩
  · obtain ⟨cs, x, y⟩ := a.deg; exact ⟨cs, hk.get x a.n2, y⟩
  · obtain ⟨cs, x, y⟩ := a.adj; exact ⟨cs, hk.get x a.n3, y⟩
  · obtain ⟨b, ks, x, y, z⟩ := h.adj i hi
    exact ⟨b, ks, by rw [hk.cell (a := ⟨s.ab, i, none⟩) (World.block_lt_of_cell? _ _ x) a.n3]; exact x, y.keep hk (show ¬ b = s.sb from MapAt.ne_cells y a.head), z⟩
  · obtain ⟨d, x⟩ := h.deg i hi
    exact ⟨d, by rw [hk.cell (a := ⟨s.db, i, none⟩) (World.block_lt_of_cell? _ _ x) a.n2]; exact x⟩
theorem GX.work (h : GX fH wk w s pb cb base top cnt curr C) : w.cell? ⟨s.sb, 3, none⟩ = some s.nodesV ∧ w.cell? ⟨s.sb, 7, none⟩ = some (gV pb) ∧ w.cell? ⟨s.sb, 8, none⟩ = some (.map (some cb)) ∧ w.cell? ⟨s.sb, 9, none⟩ = some wk ∧ w.frozen? ⟨s.sb, 9, none⟩ = false := by
  have a := h.sat
  refine ⟨?_, ?_, ?_, ?_, free_of a.head 9⟩ <;> (rw [cell_of a.head]; rfl)
end
def Wk1 (W : World) (i2 : Nat) (wk : Value) (sb lo : Nat) : Prop := ∃ g cap, wk = .slice (some ⟨g, 0, none⟩) 1 cap ∧ W.cell? ⟨g, 0, none⟩ = some (.int .i64 (i2 : Int)) ∧ lo ≤ g
set_option maxHeartbeats 8000000 in
set_option maxRecDepth 100000 in
theorem pass_spec {fH : FuncId} {B : Nat} {w : World} {G : PG} {s : SG} {pb cb base top i2 : Nat} {cnt curr u2 : Int} {C : PC} (h : GX fH (.slice none 0 0) w s pb cb base top cnt curr C) (hG : Plain B w pb G) (hB : B ≤ s.sb) (hl : ∀ u ∈ s.l, u ∈ G.ids)
    (h2 : s.l[i2]? = some u2) (hn2 : cget C u2 = none) (hone : ∀ i u, s.l[i]? = some u → i ≠ i2 → ∃ x, cget C u = some x) :
    Calls Tryz.prog 156 #[.pointer (some ⟨s.sb, 3, none⟩)] w fun e w' => ∃ wk', e = .returned (.int .i64 (i2 : Int)) ∧ GX fH wk' w' s pb cb base top cnt curr C ∧ Keep (fun b => b = s.sb) w w' := by
  have hsat : ∀ W, Keep (fun b => b = s.sb) w W → ColAt W cb C → Calls Tryz.prog 99 #[.int .i64 u2, gV pb, .map (some cb)] W fun e w' => ∃ s : Nat, e = .returned (.int .i64 (s : Int)) ∧ Keep (fun _ => False) W w' := fun W hk hc => by
    obtain ⟨i, hi⟩ := List.mem_iff_getElem?.1 (hl u2 (List.mem_of_getElem? h2))
    exact satOf_spec (hG.keep hk (fun b hb => by omega)) hc hi hn2
  have hsm := h.small
  have hsb := h.l1
  have hl8 := h.l8
  have hi2 : i2 < s.l.length := (List.getElem?_eq_some_iff.1 h2).1
  have hcell : ∀ wk W cnt curr, GX fH wk W s pb cb base top cnt curr C → W.cell? ⟨s.sb, 3, none⟩ = some s.nodesV ∧ W.cell? ⟨s.sb, 7, none⟩ = some (gV pb) ∧ W.cell? ⟨s.sb, 8, none⟩ = some (.map (some cb)) ∧ W.cell? ⟨s.sb, 9, none⟩ = some wk ∧ W.frozen? ⟨s.sb, 9, none⟩ = false := fun wk W cnt curr h => h.work
  have hnode : ∀ i, i < s.l.length → ∃ u, s.l[i]? = some u ∧ (i ≠ i2 → ∃ x : Nat, kget (ckv C) u = some (.int .i64 (x : Int))) ∧ (i = i2 → u = u2) ∧ ∀ wk W cnt curr, GX fH wk W s pb cb base top cnt curr C → W.cell? ⟨s.nb, s.noff + i, none⟩ = some (nodeV u) := fun i hi => by
    have hu := List.getElem?_eq_getElem hi
    refine ⟨_, hu, fun hne => ?_, fun e => ?_, fun wk W cnt curr h => h.node hu⟩
    · obtain ⟨x, hx⟩ := hone i _ hu hne
      exact ⟨x, by rw [kget_ckv, hx]; rfl⟩
    · subst e; rw [hu] at h2; cases h2; rfl
  have hg2 : kget (ckv C) u2 = none := by rw [kget_ckv, hn2]; rfl
  have hstart : GX fH (.slice none 0 0) (w.setCell ⟨s.sb, 9, none⟩ (.slice none 0 0)) s pb cb base top cnt curr C := h.setWk _
  have hk0 : Keep (fun b => b = s.sb) w (w.setCell ⟨s.sb, 9, none⟩ (.slice none 0 0)) := (Keep.refl _ _).setCell (a := ⟨s.sb, 9, none⟩) _ (fun _ => rfl)
  have hset : ∀ wk W v, GX fH wk W s pb cb base top cnt curr C → GX fH v (W.setCell ⟨s.sb, 9, none⟩ v) s pb cb base top cnt curr C := fun wk W v h => h.setWk v
  obtain ⟨c3, c7, c8, c9, f9⟩ := hcell _ _ _ _ h
  unfold SG.nodesV at hcell c3
  have HSAT := Lib.hid hsat
  have HCELL := Lib.hid hcell
  have HNODE := Lib.hid hnode
  have HG2 := Lib.hid hg2
  have HS0 := Lib.hid hstart
  have HK0 := Lib.hid hk0
  have HSET := Lib.hid hset
  clear hsat hcell hnode hG hl h hg2 h2 hn2 hone hstart hk0 hset
  generalize hnn : s.l.length = n at *
  clear hnn
  go_enter Tryz.func156, Tryz.ntmps156
  go_upto_region 3 with fail
  obtain ⟨d3, d7, d8, d9, e9⟩ := HCELL.out _ _ _ _ HS0.out
  clear c3 c7 c8 c9 f9
  generalize (w.setCell ⟨s.sb, 9, none⟩ (.slice none 0 0)) = w1 at *
  go_wp2_with fail
  clear d3 d7 d8 d9 e9
  go_loopw [3, 30] (fun ms i wr => ∃ (k : Nat) (a : Int) (wk' : Value), i = .int .i64 (k : Int) ∧ ms = .int .i64 a ∧ k ≤ n ∧ GX fH wk' wr s pb cb base top cnt curr C ∧ ((k ≤ i2 ∧ a = -1 ∧ wk' = .slice none 0 0) ∨ (i2 < k ∧ Wk1 wr i2 wk' s.sb w.heap.size)) ∧ Keep (fun b => b = s.sb) w wr) (fun _ i _ => n - (intOf i).toNat)
  case atStart => exact ⟨0, -1, _, rfl, rfl, Nat.zero_le _, HS0.out, .inl ⟨Nat.zero_le _, rfl, rfl⟩, HK0.out⟩
  case round =>
    obtain ⟨k, a, wk', rfl, rfl, hkn, hg, hor, hk⟩ := hrel
    clear HS0 HK0
    obtain ⟨c3, c7, c8, c9, f9⟩ := HCELL.out _ _ _ _ hg
    have HG := Lib.hid hg
    have HOR := Lib.hid hor
    have HK := Lib.hid hk
    clear hor hk hg
    by_cases hlt : k < n
    · obtain ⟨u, hu, hx, he, hcn⟩ := HNODE.out k hlt
      have cn := hcn _ _ _ _ HG.out
      by_cases hki : k = i2
      · obtain rfl : u = u2 := he hki
        obtain ⟨rfl, rfl⟩ : a = -1 ∧ wk' = .slice none 0 0 := by
          rcases HOR.out with ⟨_, h1, h2⟩ | ⟨h1, _⟩
          · exact ⟨h1, h2⟩
          · omega
        have HKI := Lib.hid hki
        clear hu hx he hcn hki HOR
        go_wp2_with (first
          | (((with_reducible refine (ID_at _ _).mono ?_); rintro e w3 ⟨rfl, rfl⟩))
          | (at_lookup; refine wpList_lookup_kv rfl _ _ _ _ rfl 2 3 Tryz.underlying83 Tryz.underlying2 (.int .i64 0) zeroI cb _ u rfl rfl HG.out.col ?_; rw [HG2.out]))
        go_upto_region 9 with fail
        go_cut [10] from 47 to 56 (fun tv wx => ∃ x : Nat, tv = .int .i64 (x : Int) ∧ Keep (fun _ => False) wr wx)
        case first =>
          go_region_with (first | (((with_reducible refine (HSAT.out _ (HK.out.drew) (HG.out.col.keepF ((Keep.refl _ wr).drew))).mono ?_); rintro e w3 ⟨x, rfl, hk⟩); have HK3 := Lib.hid (((Keep.refl (fun _ => False) wr).drew).trans hk (fun _ _ h => h)); clear hk))
          all_goals (go_wp2_with fail)
          all_goals go_meet
          all_goals exact ⟨_, rfl, HK3.out⟩
        case rest =>
          obtain ⟨x, rfl, hk3⟩ := hcut
          have HG3 := Lib.hid (HG.out.keepF hk3)
          have HK3 := Lib.hid (HK.out.trans hk3 (fun _ _ h => h.elim))
          obtain ⟨c3', c7', c8', c9', f9'⟩ := HCELL.out _ _ _ _ HG3.out
          clear hk3 c3 c7 c8 c9 f9 cn c3' c7' c8' HG HK
          have HG4 := Lib.hid (HSET.out _ _ (.slice none 0 0) HG3.out)
          have HK4 := Lib.hid (HK3.out.setCell (a := ⟨s.sb, 9, none⟩) (.slice none 0 0) (fun _ => rfl))
          have hx1 : (-1 : Int) < (x : Int) := by omega
          go_upto_region 14 with fail
          generalize (wc.setCell ⟨s.sb, 9, none⟩ (.slice none 0 0)) = w4 at *
          obtain ⟨c3, c7, c8, c9, f9⟩ := HCELL.out _ _ _ _ HG4.out
          have hw4 := HK4.out.size
          clear c3 c7 c8 f9 c9' f9' HG3 HK3
          go_wp2_with (first
            | (at_builtin; refine wpList_push2 rfl rfl (Keep.refl (fun _ => False) w4) (by repeat first | exact Keep.refl _ _ | assumption | apply Keep.alloc | apply Keep.drewN | apply Keep.drew | (refine Keep.setCell ?_ _ (fun h => absurd h (Nat.lt_irrefl _)))) infoInt Tryz.underlying22 rfl (by decide) _ 0 [] rfl (World.ownsRow_nil _ _ _ _) _ 1 1 [.int .i64 (k : Int)] rfl rfl (World.news_of_block (heap_new w4 _)) (by simp [Value.oneCell']) (by decide) (by unfold maxLen; omega) (by omega) ?_; intro g5 cap5 w5 hr5 hk5 hg5 hl5 hkk5; have HR5 := Lib.hid hr5; have HK5 := Lib.hid hk5; have HG5 := Lib.hid (HG4.out.keepF hk5); obtain ⟨p3, p7, p8, p9, q9⟩ := HCELL.out _ _ _ _ HG5.out; have HL5 := Lib.hid hg5; clear hr5 hk5 hkk5 p3 p7 p8 hg5 c9))
          go_roundw
          case rel =>
            have hk45 := HK4.out.trans HK5.out (fun _ _ h => h.elim)
            have hne : g5 ≠ s.sb := by have := Nat.le_trans hw4 HL5.out; omega
            have hc5 : w5.cell? ⟨g5, 0, none⟩ = some (.int .i64 (k : Int)) := by
              rcases owns_row HR5.out with ⟨h, _⟩ | ⟨g, cap, h, _, _, hc, _⟩
              · cases h
              · cases h; exact hc 0 _ rfl
            have hks : Keep (fun b => b = s.sb) w5 (w5.setCell ⟨s.sb, 9, none⟩ (.slice (some ⟨g5, 0, none⟩) (0 + 1) cap5)) := (Keep.refl _ _).setCell (a := ⟨s.sb, 9, none⟩) _ (fun _ => rfl)
            refine ⟨k + 1, x, _, by go_num, rfl, by omega, HSET.out _ _ (.slice (some ⟨g5, 0, none⟩) (0 + 1) cap5) HG5.out, .inr ⟨by have := HKI.out; omega, g5, cap5, rfl, ?_, Nat.le_trans hw4 HL5.out⟩, hk45.trans hks (fun _ _ h => h)⟩
            rw [hks.cell (a := ⟨g5, 0, none⟩) (World.block_lt_of_cell? _ _ hc5) hne, hc5, HKI.out]
          case measure => simp [intOf]; omega
      · obtain ⟨x, hgx⟩ := hx hki
        have HGX := Lib.hid hgx
        clear hu hx he hcn hgx
        go_wp2_with (first
          | (((with_reducible refine (ID_at _ _).mono ?_); rintro e w3 ⟨rfl, rfl⟩))
          | (at_lookup; refine wpList_lookup_kv rfl _ _ _ _ rfl 2 3 Tryz.underlying83 Tryz.underlying2 (.int .i64 0) zeroI cb _ u rfl rfl HG.out.col ?_; rw [HGX.out]))
        go_roundw
        case rel =>
          refine ⟨k + 1, a, wk', by go_num, rfl, by omega, HG.out, ?_, HK.out⟩
          rcases HOR.out with ⟨h1, h2, h3⟩ | ⟨h1, h2⟩
          · exact .inl ⟨by omega, h2, h3⟩
          · exact .inr ⟨by omega, h2⟩
        case measure => simp [intOf]; omega
    · obtain ⟨g, cap, rfl, cg, hlg⟩ : Wk1 wr i2 wk' s.sb w.heap.size := by
        rcases HOR.out with ⟨h1, _⟩ | ⟨_, h⟩
        · omega
        · exact h
      clear HOR
      go_wp2_with fail
      refine wp_loop_rounds 2 ?_
      rw [rounds_succ]
      go_wp2_with fail
      refine wp_loop_rounds 2 ?_
      rw [rounds_succ]
      go_wp2_with fail
      rw [rounds_succ]
      go_wp2_with fail
      rw [rounds_succ]
      go_wp2_with fail
      go_ret
      exact ⟨_, rfl, HG.out, HK.out⟩
end Go.Proofs.YtdaccgelmcmfjaaGreatDoor
end
