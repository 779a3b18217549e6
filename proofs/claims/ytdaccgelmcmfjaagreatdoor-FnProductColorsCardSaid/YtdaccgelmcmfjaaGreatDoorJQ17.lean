/- coloring.bySaturationDegree. -/
import Derived.Test.YtdaccgelmcmfjaaGreatDoorQ16
import Derived.Test.YtdaccgelmcmfjaaGreatDoorJN3
import Derived.Test.YtdaccgelmcmfjaaGreatDoorJQ4
import Derived.Maps.RangeWalk
set_option linter.all false
section
namespace Go.Proofs.YtdaccgelmcmfjaaGreatDoor
open Go.RowKit Go.V
def ByPost (w : World) (it g pb cb : Nat) (l : List Int) (e : Ending) (w' : World) : Prop :=
  ∃ (s : SG) (base : Nat), e = .returned (.pointer (some ⟨s.sb, 0, none⟩)) ∧ s.l = l ∧ Sat w' s pb (-1) (-1) .nilFunc (.map (some cb)) (.slice none 0 0) ∧ AdjW w' s base w'.heap.size ∧ DegN w' s ∧ s.nb = g ∧
    w.heap.size ≤ s.sb ∧ w.heap.size ≤ s.ib ∧ w.heap.size ≤ s.db ∧ w.heap.size ≤ s.ab ∧ s.ib < base ∧ s.db < base ∧ s.ab < base ∧ w.heap.size < base ∧ base ≤ w'.heap.size ∧ Keep (fun b => b = it) w w'
theorem by_end {w w1 w2 : World} {it g pb cb off cap ib db ab : Nat} {l : List Int} (hc : Cells w2 g off (l.map nodeV)) (hw : w.heap.size < w1.heap.size) (hm : Mk w1 w2 ib db ab l.length l.length l.length l) (hk : Keep (fun b => b = it) w w2) (hg : g < w.heap.size) (hsm : l.length ≤ 1000) (hn : 0 < l.length) :
    ByPost w it g pb cb l (.returned (.pointer (some ⟨w2.heap.size, 0, none⟩))) (w2.alloc (.cells #[.int .i64 (-1), .int .i64 (-1), .nilFunc, .slice (some ⟨g, off, none⟩) l.length cap, .map (some ib), .slice (some ⟨db, 0, none⟩) l.length l.length, .slice (some ⟨ab, 0, none⟩) l.length l.length, gV pb, .map (some cb), .slice none 0 0] 138 (0, 0))) := by
  have i1 := hm.i1; have i2 := hm.i2; have i3 := hm.i3
  have hka := (Keep.refl (fun _ => False) w2).alloc (.cells #[.int .i64 (-1), .int .i64 (-1), .nilFunc, .slice (some ⟨g, off, none⟩) l.length cap, .map (some ib), .slice (some ⟨db, 0, none⟩) l.length l.length, .slice (some ⟨ab, 0, none⟩) l.length l.length, gV pb, .map (some cb), .slice none 0 0] 138 (0, 0))
  have hsz := hk.size
  have hib : ib < w2.heap.size := by obtain ⟨IX, a, _⟩ := hm.idx; exact a.lt
  have hdb : db < w2.heap.size := by obtain ⟨cs, a, _⟩ := hm.deg; exact lt_of_get a
  have hab : ab < w2.heap.size := by obtain ⟨cs, a, _⟩ := hm.adj; exact lt_of_get a
  refine ⟨⟨w2.heap.size, g, off, cap, ib, db, ab, l⟩, w1.heap.size + 4, rfl, rfl, ⟨heap_new _ _, hc.keep hka (fun h => h), hsm, ?_, ?_, ?_, ?_, ?_, ?_, ?_, hm.n3, ?_⟩, ?_, ?_, rfl, hsz, ?_, ?_, ?_, ?_, ?_, ?_, ?_, ?_, (hk.alloc _)⟩
  · obtain ⟨IX, a, b⟩ := hm.idx
    exact ⟨IX, a.keepF hka, fun i u hu => b i u (List.getElem?_eq_some_iff.1 hu).1 hu⟩
  · obtain ⟨cs, a, b, c⟩ := hm.deg
    exact ⟨cs, hka.get a (fun h => h), fun i hi => let ⟨d, h⟩ := c i hi; ⟨_, h⟩⟩
  · obtain ⟨cs, a, b, c⟩ := hm.adj
    exact ⟨cs, hka.get a (fun h => h), b⟩
  · show g ≠ w2.heap.size; omega
  · show db ≠ w2.heap.size; omega
  · show ab ≠ w2.heap.size; omega
  · show g ≠ ab; omega
  · show g < _; simp; omega
  · intro i hi
    obtain ⟨cs, a, b, c⟩ := hm.adj
    obtain ⟨x, ks, d, e, f⟩ := c i hi
    refine ⟨x, ks, ?_, e.keep hka (fun h => h), f, ?_⟩
    · show (w2.alloc _).cell? ⟨ab, i, none⟩ = _
      rw [cell_of (hka.get a (fun h => h))]; exact d
    · have := e.lt; simp; omega
  · intro i hi
    obtain ⟨cs, a, b, c⟩ := hm.deg
    obtain ⟨d, h⟩ := c i hi
    refine ⟨d, ?_⟩
    show (w2.alloc _).cell? ⟨db, i, none⟩ = _
    rw [cell_of (hka.get a (fun h => h))]; exact h
  · show w.heap.size ≤ ib; omega
  · show w.heap.size ≤ db; omega
  · show w.heap.size ≤ ab; omega
  · show ib < _; omega
  · show db < _; omega
  · show ab < _; omega
  · omega
  · obtain ⟨cs, _, _, c⟩ := hm.adj
    obtain ⟨x, ks, _, e, f⟩ := c 0 hn
    have := e.lt
    simp; omega
set_option maxHeartbeats 8000000 in
set_option maxRecDepth 20000 in
theorem bySat_spec {B it g cb pb : Nat} {w : World} {G : PG} {l : List Int} (hG : Plain B w pb G) (hi : Iter w it g (l.map nodeV) 0) (hl : ∀ u ∈ l, u ∈ G.ids) (hnd : l.Nodup) (hn : 0 < l.length) (hsm : l.length ≤ 1000) (hc : ColAt w cb []) (hcit : cb ≠ it) (hB : B ≤ it) :
    Calls Tryz.prog 53 #[.iface 284 (.pointer (some ⟨it, 0, none⟩)), gV pb, .map (some cb)] w (ByPost w it g pb cb l) := by
  have hnew := newSat_spec hG hi hl hnd hn hsm hc hcit hB
  have hgl := hi.lt'
  have HN := Lib.hid hnew
  clear hnew hG hi hl hnd hc
  go_enter Tryz.func53, Tryz.ntmps53
  go_wp2_with (first | (((with_reducible refine (HN.out).mono ?_); rintro e w2 ⟨off, cap, ib, db, ab, w1, rfl, hcl, hw, hm, hk⟩); have HCL := Lib.hid hcl; have HM := Lib.hid hm; have HK := Lib.hid hk; clear hcl hm hk))
  go_ret
  exact by_end HCL.out hw HM.out HK.out hgl hsm hn
end Go.Proofs.YtdaccgelmcmfjaaGreatDoor
end
/- coloring.greedyColoringOf, from no colours: all nodes are coloured, joined ones apart. -/
section
namespace Go.Proofs.YtdaccgelmcmfjaaGreatDoor
open Go.RowKit Go.V
structure Gr (G : PG) (C : PC) (j k : Nat) : Prop where
  proper : Proper G.adj C
  le : ∀ u c, cget C u = some c → c ≤ k
  len : C.length = j
  kj : k ≤ j
  mem : ∀ u ∈ C.map (·.1), u ∈ G.ids
theorem Gr.nil (G : PG) : Gr G [] 0 0 := ⟨Proper.nil _, fun u c h => by simp [cget] at h, rfl, Nat.le_refl _, fun u h => by cases h⟩
section
variable {G : PG} {C : PC} {j k : Nat}
theorem Gr.put (h : Gr G C j k) (hU : UG G) {u : Int} (hu : u ∈ G.ids) (hc : cget C u = none) {i : Nat} (hi : G.ids[i]? = some u) {ks : List Int} (hk : ColsOf C (G.nbr i) ks) {c : Nat} (hck : (c : Int) ∉ ks) (hc1 : c ≤ k + 1) :
    Gr G (cput C u c) (j + 1) (if k < c then c else k) := by
  refine ⟨h.proper.put hU.sym hU.irr (fun v hv he => hck ((hk _).2 ⟨v, (PG.mem_nbr hU.ok hi v).2 hv, c, he, rfl⟩)), fun v x hx => ?_, by rw [cput_length hc, h.len], ?_, fun v hv => ?_⟩
  · rw [cget_cput] at hx
    split at hx
    · cases hx; split <;> omega
    · have := h.le v x hx; split <;> omega
  · have := h.kj; split <;> omega
  · rw [keys_cput hc, List.mem_append, List.mem_singleton] at hv
    rcases hv with hv | rfl
    · exact h.mem v hv
    · exact hu
theorem Gr.free (h : Gr G C j k) {l ks : List Int} (hk : ColsOf C l ks) : ((k + 1 : Nat) : Int) ∉ ks := fun hm => by
  obtain ⟨v, _, c, h1, h2⟩ := (hk _).1 hm
  have := h.le v c h1
  omega
theorem Gr.total (h : Gr G C j k) (hU : UG G) (hC : (C.map (·.1)).Nodup) (hj : G.ids.length ≤ j) : ∀ u ∈ G.ids, ∃ c, cget C u = some c := fun u hu => all_coloured (PG.ids_nodup hU.ok) hC h.mem (by rw [h.len]; exact hj) u hu
theorem Gr.fin (h : Gr G C j k) (hU : UG G) (hC : (C.map (·.1)).Nodup) (hj : G.ids.length ≤ j) : Colorable G.ids G.adj (k + 1) := by
  have hall := all_coloured (PG.ids_nodup hU.ok) hC h.mem (by rw [h.len]; exact hj)
  exact h.proper.colorable fun u hu => let ⟨x, hx⟩ := hall u hu; ⟨x, hx, Nat.lt_succ_of_le (h.le u x hx)⟩
theorem Gr.left (h : Gr G C j k) (hU : UG G) (hC : (C.map (·.1)).Nodup) (hj : j < G.ids.length) : ∃ u ∈ G.ids, cget C u = none := by
  by_cases he : ∃ u ∈ G.ids, cget C u = none
  · exact he
  · exfalso
    have hs : ∀ u ∈ G.ids, u ∈ C.map (·.1) := fun u hu => by
      by_cases hm : u ∈ C.map (·.1)
      · exact hm
      · exact absurd ⟨u, hu, cget_none.2 hm⟩ he
    have := nodup_le (PG.ids_nodup hU.ok) hs
    rw [List.length_map, h.len] at this
    omega
end
def GreedyPost (w : World) (G : PG) (s : SG) (pb cb base top : Nat) (e : Ending) (w' : World) : Prop :=
  ∃ (k : Nat) (C : PC) (cnt curr : Int), e = .returned (.tuple #[.int .i64 ((k + 1 : Nat) : Int), .map (some cb)]) ∧ Colorable G.ids G.adj (k + 1) ∧ ((∀ u ∈ C.map (·.1), u ∈ G.ids) ∧ (∀ u ∈ G.ids, ∃ c, cget C u = some c) ∧ ∀ u v x, cget C u = some x → cget C v = some x → ¬ G.adj u v) ∧ k ≤ G.ids.length ∧ GI w' s pb cb base top cnt curr C ∧ Keep (fun b => b = cb ∨ b = s.sb ∨ (base ≤ b ∧ b < top)) w w'
set_option maxHeartbeats 8000000 in
set_option maxRecDepth 100000 in
theorem greedy_spec {B pb cb base top : Nat} {w : World} {G : PG} {s : SG} (h : GI w s pb cb base top (-1) (-1) []) (hG : Plain B w pb G) (hU : UG G) (hl : ∀ u, u ∈ s.l ↔ u ∈ G.ids) (hlen : s.l.length = G.ids.length) (hB : B ≤ cb ∧ B ≤ s.sb ∧ B ≤ base) (hn : 0 < G.ids.length) :
    Calls Tryz.prog 55 #[gV pb, .iface 132 (.pointer (some ⟨s.sb, 0, none⟩)), .map (some cb)] w (GreedyPost w G s pb cb base top) := by
  unfold GreedyPost
  have hsm := hU.ok.small
  have hcol := h.col
  have hl1 := h.l1
  have hl6 := h.l6
  have hl7 := h.l7
  have hl8 := h.l8
  have hG0 : ∀ W, Keep (fun b => b = cb ∨ b = s.sb ∨ (base ≤ b ∧ b < top)) w W → Plain B W pb G := fun W hk => hG.keep hk (fun b hb => by omega)
  have hnext : ∀ (W : World) (C : PC) (j k : Nat) (cnt curr : Int), GI W s pb cb base top cnt curr C → Gr G C j k → j < G.ids.length → cnt = (j : Int) - 1 → (j = 0 → curr = -1) → (0 < j → ∃ (i : Nat) (u : Int) (c : Nat), curr = (i : Int) ∧ s.l[i]? = some u ∧ cget C u = some c) → Plain B W pb G →
      Calls Tryz.prog 275 #[.pointer (some ⟨s.sb, 0, none⟩)] W (NextPost W s pb cb base top C j) := fun W C j k cnt curr hg hgr hj hc h0 h1 hP => by
    rcases Nat.eq_zero_or_pos j with rfl | hp
    · have : C = [] := List.length_eq_zero_iff.1 hgr.len
      subst this
      rw [h0 rfl] at hg
      rw [hc] at hg
      exact satNext_first hg (by omega)
    · obtain ⟨i, u, c, e1, e2, e3⟩ := h1 hp
      obtain ⟨v, hv, hv2⟩ := hgr.left hU hg.col.nodup hj
      obtain ⟨m, rfl⟩ : ∃ m, j = m + 1 := ⟨j - 1, by omega⟩
      subst e1
      rw [hc, show ((m + 1 : Nat) : Int) - 1 = (m : Int) by omega] at hg
      exact satNext_more hg hP hU hl e2 e3 ⟨v, (hl v).2 hv, hv2⟩ (by omega) ⟨hB.2.1, hB.2.2⟩
  have hstop : ∀ (W : World) (C : PC) (curr : Int), GI W s pb cb base top ((G.ids.length : Int) - 1) curr C → Calls Tryz.prog 275 #[.pointer (some ⟨s.sb, 0, none⟩)] W fun e w' => e = .returned (.bool false) ∧ (∃ cnt, GI w' s pb cb base top cnt curr C) ∧ Keep (fun b => b = s.sb) W w' := fun W C curr hg => satNext_last (m := G.ids.length - 1) (by rw [show ((G.ids.length - 1 : Nat) : Int) = (G.ids.length : Int) - 1 by omega]; exact hg) (by omega)
  have hfr : ∀ u ∈ G.ids, ∃ i, G.ids[i]? = some u ∧ (G.nbr i).length ≤ 1000 ∧ ∀ W, Plain B W pb G → Calls Tryz.prog 257 #[uV pb, .int .i64 u] W fun e w' => ∃ it g, e = .returned (.iface 284 (.pointer (some ⟨it, 0, none⟩))) ∧ Iter w' it g ((G.nbr i).map nodeV) 0 ∧ W.heap.size ≤ it ∧ W.heap.size ≤ g ∧ Keep (fun _ => False) W w' := fun u hu => by
    obtain ⟨i, hi⟩ := List.mem_iff_getElem?.1 hu
    exact ⟨i, hi, Nat.le_trans (PG.nbr_length hU.ok hi) hsm, fun W hP => From_any hP hi W (Keep.refl _ _)⟩
  have HG0 := Lib.hid hG0
  have HNEXT := Lib.hid hnext
  have HSTOP := Lib.hid hstop
  have HFR := Lib.hid hfr
  have HUG := Lib.hid hU
  have HL := Lib.hid hl
  have HI := Lib.hid h
  have HCOL := Lib.hid hcol
  clear hG hG0 hnext hstop hfr hU hl h hcol
  have hnn : ∃ n, n = G.ids.length := ⟨_, rfl⟩
  obtain ⟨n, hn0⟩ := hnn
  have HNN := Lib.hid hn0
  rw [← hn0] at hn hsm hlen
  clear hn0
  go_enter Tryz.func55, Tryz.ntmps55
  go_wp2_with (first
    | (at_range; refine wpList_range_kv rfl _ _ rfl 2 3 Tryz.underlying83 cb _ rfl HCOL.out ?_; intro w1 hr hk hs; have HR := Lib.hid hr; have HK1 := Lib.hid hk; clear hr hk hs; go_frame))
  refine wp_loop_rounds 1 ?_
  rw [rounds_succ]
  go_wp2_with (first
    | (at_next; refine wpList_next_ent rfl _ rfl w.heap.size cb _ _ rfl HR.out ?_ ?_; rotate_left; intro kk x w7 hmem hr2 hk2 hs2 hent; simp [ckv] at hmem; intro hnil))
  have hstart := HI.out.keepF HK1.out
  have HST := Lib.hid hstart
  have HKS := Lib.hid (HK1.out.mono (T := fun b => b = cb ∨ b = s.sb ∨ (base ≤ b ∧ b < top)) (fun _ _ h => h.elim))
  clear hstart HI HCOL HR HK1
  go_loopg [6, 7] (n + 1) (fun gk a6 a7 wr => ∃ (j k : Nat) (C : PC) (cnt curr : Int), a6 = .int .i64 (k : Int) ∧ a7 = .map (some cb) ∧ j + gk = n + 1 ∧ j ≤ n ∧ GI wr s pb cb base top cnt curr C ∧ Gr G C j k ∧ cnt = (j : Int) - 1 ∧ (j = 0 → curr = -1) ∧ (0 < j → ∃ (i : Nat) (u : Int) (c : Nat), curr = (i : Int) ∧ s.l[i]? = some u ∧ cget C u = some c) ∧ Keep (fun b => b = cb ∨ b = s.sb ∨ (base ≤ b ∧ b < top)) w wr)
  case atStart => exact ⟨0, 0, [], -1, -1, rfl, rfl, by omega, Nat.zero_le _, HST.out, Gr.nil G, rfl, fun _ => rfl, fun h => absurd h (Nat.lt_irrefl _), HKS.out⟩
  case round =>
    obtain ⟨j, k, C, cnt, curr, rfl, rfl, hgk, hjn, hg, hgr, hcnt, hc0, hc1, hk⟩ := hrel
    have HG := Lib.hid hg
    have HGR := Lib.hid hgr
    have HK := Lib.hid hk
    have HGK := Lib.hid hgk
    have hkj := hgr.kj
    clear HST HKS
    by_cases hlt : j < n
    · have hnx := HNEXT.out wr C j k cnt curr hg hgr (by rw [← HNN.out]; exact hlt) hcnt hc0 hc1 (HG0.out _ hk)
      have HNX := Lib.hid hnx
      clear hnx hg hgr hk hgk hc0 hc1 hcnt
      go_upto_region 11 with (first
        | (((with_reducible refine (HNX.out).mono ?_); rintro e w4 ⟨i, u, rfl, hu, hun, hg4, hk4⟩); have HG4 := Lib.hid hg4; have HK4 := Lib.hid (HK.out.trans hk4 (fun b _ h => .inr h)); have HU := Lib.hid hu; have HUN := Lib.hid hun; clear hg4 hk4 hu hun)
        | (((with_reducible refine (satNode_spec HG4.out HU.out).mono ?_); rintro e w5 ⟨rfl, q, rfl⟩))
        | (((with_reducible refine (ID_at _ _).mono ?_); rintro e w6 ⟨rfl, rfl⟩)))
      obtain ⟨gi, hgi, hnl, hfr⟩ := HFR.out u ((HL.out u).1 (List.mem_of_getElem? HU.out))
      have hk5 := HK4.out.drewN q
      have hg5 := HG4.out.keepF ((Keep.refl (fun _ => False) w4).drewN q)
      have HFR2 := Lib.hid (hfr _ (HG0.out _ hk5))
      have HGI := Lib.hid hgi
      have HG5 := Lib.hid hg5
      have HK5 := Lib.hid hk5
      clear hfr hgi hg5 hk5 HG4 HK4
      generalize w4.drewN q = w5 at *
      have hln : kget (ckv C) u = none := by rw [kget_ckv, HUN.out]; rfl
      have HLN := Lib.hid hln
      clear hln
      go_wp2_with (first
        | (((with_reducible refine (HFR2.out).mono ?_); rintro e w6 ⟨it, g, rfl, hi, h1, h2, hk6⟩); have HI := Lib.hid hi; have HG6 := Lib.hid (HG5.out.keepF hk6); have HK6 := Lib.hid (HK5.out.trans hk6 (fun _ _ h => h.elim)); have hsz := HK5.out.size; clear hi hk6)
        | (((with_reducible refine (colorsOf_spec HI.out HG6.out.col (by omega) (by omega)).mono ?_); rintro e w7 ⟨mb, ks, rfl, hmb, hset, hcol, hk7⟩); have HG7 := Lib.hid (HG6.out.keep hk7 (fun b hb => by omega)); have HK7 := Lib.hid (HK6.out.trans hk7 (fun b hb h => by omega)); have HSET := Lib.hid hset; have HCOL := Lib.hid hcol; clear hset hcol hk7)
        | (at_lookup; refine wpList_lookup_kv rfl _ _ _ _ rfl 2 3 Tryz.underlying83 Tryz.underlying2 (.int .i64 0) zeroI cb _ u rfl rfl HG7.out.col ?_; rw [HLN.out]))
      have hfree := HGR.out.free HCOL.out
      have HFREE := Lib.hid hfree
      have hum := (HL.out u).1 (List.mem_of_getElem? HU.out)
      have HUM := Lib.hid hum
      clear hfree hum HG5 HG6 HK5 HK6 HI HFR2 HNX HG HK
      generalize gk = go1 at *
      go_loopw [6, 15] (fun a6 a15 wr => ∃ c : Nat, a6 = .int .i64 (k : Int) ∧ a15 = .int .i64 (c : Int) ∧ c ≤ k + 1 ∧ (∀ x : Nat, x < c → (x : Int) ∈ ks) ∧ Keep (fun _ => False) w7 wr) (fun _ i _ => k + 2 - (intOf i).toNat)
      case atStart => exact ⟨0, rfl, rfl, by omega, fun x hx => absurd hx (Nat.not_lt_zero _), Keep.refl _ _⟩
      case round =>
        obtain ⟨c, rfl, rfl, hck, hall, hk8⟩ := hrel
        have HALL := Lib.hid hall
        have HK8 := Lib.hid hk8
        have hset8 := HSET.out.keep hk8 (fun h => h)
        have hhas := HasI_spec hset8 (c : Int)
        clear hall hk8 hset8
        by_cases hm : (c : Int) ∈ ks
        · rw [show ks.contains (c : Int) = true by simpa using hm] at hhas
          have HHAS := Lib.hid hhas
          have HM := Lib.hid hm
          clear hhas hm
          go_wp2_with (first
            | (((with_reducible refine (HHAS.out).mono ?_); rintro e w9 ⟨rfl, hk9⟩); have HK9 := Lib.hid (HK8.out.trans hk9 (fun _ _ h => h)); clear hk9))
          go_roundw
          case measure => simp [intOf]; omega
          case rel => exact ⟨c + 1, rfl, by go_num, by (have : c ≠ k + 1 := fun e => HFREE.out (by rw [← e]; exact HM.out); omega), fun x hx => by
            rcases Nat.lt_succ_iff_lt_or_eq.1 hx with h | rfl
            · exact HALL.out x h
            · exact HM.out, HK9.out⟩
        · rw [show ks.contains (c : Int) = false by simpa using hm] at hhas
          have HHAS := Lib.hid hhas
          have HM := Lib.hid hm
          clear hhas hm
          have hput := HGR.out.put HUG.out HUM.out HUN.out HGI.out HCOL.out HM.out hck
          have HPUT := Lib.hid hput
          clear hput
          go_wp2_with (first
            | (((with_reducible refine (HHAS.out).mono ?_); rintro e w9 ⟨rfl, hk9⟩); have HG9 := Lib.hid ((HG7.out.keepF HK8.out).keepF hk9); have HK9 := Lib.hid ((HK7.out.trans HK8.out (fun _ _ h => h.elim)).trans hk9 (fun _ _ h => h.elim)); clear hk9)
            | (at_mapUpdate; refine wpList_update_kv rfl _ _ _ _ rfl 2 3 Tryz.underlying83 Tryz.underlying2 cb _ u (.int .i64 (c : Int)) rfl rfl rfl HG9.out.col ?_; intro w10 h1 h2 h3; rw [kput_ckv] at h1; have HG10 := Lib.hid (HG9.out.recol h2 h1); have HK10 := Lib.hid (HK9.out.trans h2 (fun b _ h => .inl h)); clear h1 h2 h3))
          all_goals go_roundg (go1 - 1)
          all_goals first
            | (have := HGK.out; omega)
            | (have hif : (if k < c then c else k) = c := if_pos (by omega)
               have hp := HPUT.out
               rw [hif] at hp
               exact ⟨j + 1, c, cput C u c, (j : Int), (i : Int), by rfl, by rfl, by have := HGK.out; omega, by omega, HG10.out, hp, by omega, fun h => absurd h (by omega), fun _ => ⟨i, u, c, rfl, HU.out, by rw [cget_cput, if_pos rfl]⟩, HK10.out⟩)
            | (have hif : (if k < c then c else k) = k := if_neg (by omega)
               have hp := HPUT.out
               rw [hif] at hp
               exact ⟨j + 1, k, cput C u c, (j : Int), (i : Int), by rfl, by rfl, by have := HGK.out; omega, by omega, HG10.out, hp, by omega, fun h => absurd h (by omega), fun _ => ⟨i, u, c, rfl, HU.out, by rw [cget_cput, if_pos rfl]⟩, HK10.out⟩)
    · obtain rfl : j = n := by omega
      have hst := HSTOP.out wr C curr (by rw [← HNN.out, ← hcnt]; exact hg)
      have HSTP := Lib.hid hst
      clear hst hg hgr hk hgk hc0 hc1 hcnt
      go_wp2_with (first
        | (((with_reducible refine (HSTP.out).mono ?_); rintro e w4 ⟨rfl, hg4, hk4⟩); have HG4 := Lib.hid hg4; have HK4 := Lib.hid (HK.out.trans hk4 (fun b _ h => .inr (.inl h))); clear hg4 hk4))
      go_ret2
      obtain ⟨cnt', hg4⟩ := HG4.out
      refine ⟨k, C, cnt', curr, by simp, HGR.out.fin HUG.out hg4.col.nodup (by rw [← HNN.out]; exact Nat.le_refl _), ⟨HGR.out.mem, HGR.out.total HUG.out hg4.col.nodup (by rw [← HNN.out]; exact Nat.le_refl _), HGR.out.proper⟩, by rw [← HNN.out]; exact hkj, hg4, HK4.out⟩
end Go.Proofs.YtdaccgelmcmfjaaGreatDoor
end
