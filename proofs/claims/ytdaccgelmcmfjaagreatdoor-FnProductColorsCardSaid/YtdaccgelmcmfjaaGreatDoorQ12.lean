/- (*saturationDegree).reset: the walk. -/
import Derived.Test.YtdaccgelmcmfjaaGreatDoorJQ10
set_option linter.all false
namespace Go.Proofs.YtdaccgelmcmfjaaGreatDoor
open Go.RowKit Go.V
variable {w : World} {s : SG} {pb : Nat} {cnt curr : Int} {heur cv wk : Value}
def ResetPost (w : World) (s : SG) (pb : Nat) (cnt curr : Int) (heur wk : Value) (cb : Nat) (G : PG) (C : PC) (e : Ending) (w' : World) : Prop :=
  ∃ KS, e = .returned (.tuple #[]) ∧ Sat w' s pb cnt curr heur (.map (some cb)) wk ∧ AdjK w' s.ab s.l.length w.heap.size s.l.length KS ∧ DoneK G C [] s.l s.l.length KS ∧ Keep (fun b => b = s.sb ∨ b = s.ab) w w'
set_option maxHeartbeats 8000000 in
set_option maxRecDepth 20000 in
theorem reset_spec {B cb : Nat} {G : PG} {C : PC} (hG : Plain B w pb G) (hok : G.Ok) (hB : B ≤ s.sb ∧ B ≤ s.ab) (h : Sat w s pb cnt curr heur cv wk) (hc : ColAt w cb C) (hl : ∀ u, u ∈ s.l ↔ u ∈ G.ids) (hn : s.l.Nodup) (hC : ∀ u ∈ C.map (·.1), u ∈ G.ids) :
    Calls Tryz.prog 109 #[s.ptr, .map (some cb)] w (ResetPost w s pb cnt curr heur wk cb G C) := by
  have hne := h.colNe hc
  have hsm := h.small
  have hnf := nilFrom pb
  have hmm := @run_makeMap Tryz.prog
  have hlt := h.sb_lt
  have hlt2 := h.ab_lt
  have hlt3 := hc.lt
  have hsab := h.n3
  have hnb := h.nbl
  have hib : s.ib < w.heap.size := by obtain ⟨IX, a, _⟩ := h.idx; exact a.lt
  have hdb : s.db < w.heap.size := by obtain ⟨cs, a, _⟩ := h.deg; exact lt_of_get a
  have HIB := Lib.hid hib
  have HDB := Lib.hid hdb
  have HNB := Lib.hid hnb
  clear hib hdb hnb
  have hfrom : ∀ k ∈ C.map (·.1), ∃ m : List Int, (∀ u, u ∈ m ↔ G.adj k u) ∧ m.length ≤ 1000 ∧ ∀ W, Keep (fun b => b = s.sb ∨ b = s.ab) w W → Calls Tryz.prog 257 #[uV pb, .int .i64 k] W fun e w' => ∃ tv, e = .returned tv ∧ FromAt W w' tv m := fun k hk => by
    obtain ⟨i, hi⟩ := List.mem_iff_getElem?.1 (hC k hk)
    refine ⟨G.nbr i, fun u => PG.mem_nbr hok hi u, Nat.le_trans (PG.nbr_length hok hi) hok.small, fun W hk => ?_⟩
    have := From_any (hG.keep hk (by rintro b (rfl | rfl); exact hB.1; exact hB.2)) hi W (Keep.refl _ _)
    exact this.mono (by rintro e w' ⟨it, g, rfl, h1, h2, h3, h4⟩; exact ⟨_, rfl, it, g, rfl, h1, h2, h3, h4⟩)
  have hidx : ∀ k u, G.adj k u → ∃ j, j < s.l.length ∧ s.l[j]? = some u ∧ ∀ (W : World) (cv' : Value), Sat W s pb cnt curr heur cv' wk → (Instr.lookup 83 (.map (some s.ib)) (.int .i64 u) false).run Tryz.prog W = .ok (.int .i64 (j : Int)) W := fun k u ha => by
    obtain ⟨j, hj⟩ := List.mem_iff_getElem?.1 ((hl u).2 (PG.adj_mem ha).2)
    refine ⟨j, (List.getElem?_eq_some_iff.1 hj).1, hj, fun W cv' hs => ?_⟩
    obtain ⟨IX, hx, hx2⟩ := hs.idx
    have := run_lookup_int Tryz.underlying83 Tryz.underlying2 hx u (zeroI W) false
    rw [this, kget_ckv, hx2 j u hj]; rfl
  have hcell : ∀ (W : World) (cv' : Value), Sat W s pb cnt curr heur cv' wk → W.cell? ⟨s.sb, 3, none⟩ = some s.nodesV ∧ W.cell? ⟨s.sb, 4, none⟩ = some (.map (some s.ib)) ∧ W.cell? ⟨s.sb, 6, none⟩ = some (.slice (some ⟨s.ab, 0, none⟩) s.l.length s.l.length) ∧ W.cell? ⟨s.sb, 7, none⟩ = some (gV pb) ∧ W.cell? ⟨s.sb, 8, none⟩ = some cv' := fun W cv' hs => by
    obtain ⟨c3, c4, c5, c6, c7, c8⟩ := hs.cells
    exact ⟨c3, c4, c6, c7, c8⟩
  unfold SG.nodesV at hcell
  unfold SG.ptr ResetPost
  obtain ⟨c3, c4, c6, c7, c8⟩ := hcell w cv h
  have f8 := free_of h.head 8
  have hK0 : Keep (fun b => b = s.sb ∨ b = s.ab) w (w.setCell ⟨s.sb, 8, none⟩ (.map (some cb))) := (Keep.refl _ _).setCell (a := ⟨s.sb, 8, none⟩) _ (fun _ => .inl rfl)
  have HK0 := Lib.hid hK0
  have hst := h.recolor (.map (some cb))
  have HS := Lib.hid hst
  have HFROM := Lib.hid hfrom
  have HIDX := Lib.hid hidx
  have HCELL := Lib.hid hcell
  have HC := Lib.hid hc
  have HN := Lib.hid hn
  have HND := Lib.hid hc.nodup
  clear hG hok hl hn hC hB hfrom hidx hcell h hc hK0 hst
  generalize hnn : s.l.length = n at *
  have HNN := Lib.hid hnn
  clear hnn
  obtain ⟨sb, nb, noff, ncap, ib, db, ab, l⟩ := s
  simp only at *
  go_enter Tryz.func109, Tryz.ntmps109
  go_wp2_with fail
  clear c3 c4 c6 c7 c8 f8
  go_loopw [17] (fun i wr => ∃ (k : Nat), i = .int .i64 (k : Int) ∧ k ≤ n ∧ Sat wr ⟨sb, nb, noff, ncap, ib, db, ab, l⟩ pb cnt curr heur (.map (some cb)) wk ∧ AdjK wr ab n w.heap.size k (fun _ => []) ∧ wr.heap.size = w.heap.size + k ∧ Keep (fun b => b = sb ∨ b = ab) w wr) (fun i _ => n - (intOf i).toNat)
  case atStart => exact ⟨0, rfl, Nat.zero_le _, HS.out, by have := HS.out.adjK w.heap.size; rw [show (SG.mk sb nb noff ncap ib db ab l).l.length = n from HNN.out] at this; exact this, by simp, HK0.out⟩
  case round =>
    obtain ⟨k, rfl, hkn, hs, ha, hsz, hk⟩ := hrel
    clear HS HK0
    obtain ⟨c3, c4, c6, c7, c8⟩ := HCELL.out _ _ hs
    have HS := Lib.hid hs
    have HA := Lib.hid ha
    have HK := Lib.hid hk
    have HSZ := Lib.hid hsz
    clear hs ha hk hsz
    by_cases hlt : k < n
    · obtain ⟨⟨v0, ca⟩, fa⟩ := HA.out.open hlt
      have hka := (Keep.refl (fun _ => False) wr).alloc (.map #[] 0)
      have hab : ab < wr.heap.size := by have := HSZ.out; omega
      have ca' : (wr.alloc (.map #[] 0)).cell? ⟨ab, k, none⟩ = some v0 := (hka.cell (a := ⟨ab, k, none⟩) hab (fun h => h)).trans ca
      have fa' : (wr.alloc (.map #[] 0)).frozen? ⟨ab, k, none⟩ = false := (hka.frozen (a := ⟨ab, k, none⟩) hab (fun h => h)).trans fa
      clear c3 c4 c7 c8 ca fa hka
      go_wp2_with fail
      have hk1 : Keep (fun b => b = ab) wr ((wr.setCell ⟨ab, k, none⟩ (.map (some wr.heap.size))).alloc (.map #[] 0)) := ((Keep.refl (fun b => b = ab) wr).setCell (a := ⟨ab, k, none⟩) _ (fun _ => rfl)).alloc _
      have ha2 := HA.out.make HSZ.out hlt
      go_roundw
      case rel => exact ⟨k + 1, by go_num, by omega, HS.out.keepAdj hk1 (fun _ _ h => h) (by rw [show (SG.mk sb nb noff ncap ib db ab l).l.length = n from HNN.out]; exact ha2), ha2, by have := HSZ.out; simp; omega, HK.out.trans hk1 (fun _ _ h => .inr h)⟩
      case measure => simp [intOf]; omega
    · obtain rfl : k = n := by omega
      have HCW := Lib.hid (HC.out.keep HK.out (by omega))
      go_wp2_with (first
        | (at_range; refine wpList_range_kv rfl _ _ rfl 2 3 Tryz.underlying83 cb _ rfl HCW.out ?_; intro w1 hr hk hs; have HR := Lib.hid (HSZ.out ▸ hr); have HS1 := Lib.hid (HS.out.keepF hk); have HA1 := Lib.hid (HA.out.keep hk (fun h => h) (fun _ _ h => h)); have HK1 := Lib.hid (HK.out.trans hk (fun _ _ h => h.elim)); have HSZ1 := Lib.hid hs; clear hr hk hs; go_frame))
      have hbase := HSZ.out
      rw [HSZ.out] at *
      clear c3 c4 c6 c7 c8 HS HA HK HCW hlt
      go_loopg [] (C.length + 1) (fun gk wr => ∃ R KS, R.length + 1 = gk ∧ Rng wr (w.heap.size + k) cb (ckv C) (ckv R) ∧ R.Sublist C ∧ Sat wr ⟨sb, nb, noff, ncap, ib, db, ab, l⟩ pb cnt curr heur (.map (some cb)) wk ∧ AdjK wr ab k w.heap.size k KS ∧ DoneK G C R l k KS ∧ Keep (fun b => b = sb ∨ b = ab) w wr)
      case atStart => exact ⟨C, fun _ => [], rfl, HR.out, List.Sublist.refl _, HS1.out, HA1.out, DoneK.start HND.out, HK1.out⟩
      case round =>
        obtain ⟨R, KS, hgk, hr, hsub, hs, ha, hd, hk⟩ := hrel
        clear HR HS1 HA1 HK1
        have HR := Lib.hid hr
        have HS := Lib.hid hs
        have HA := Lib.hid ha
        have HD := Lib.hid hd
        have HK := Lib.hid hk
        have HGK := Lib.hid hgk
        have HSUB := Lib.hid hsub
        have hrl := hr.lt
        clear hr hs ha hd hk hgk hsub
        go_wp2_with (first
          | (at_next; refine wpList_next_ent rfl _ rfl (w.heap.size + k) cb _ _ rfl HR.out ?_ ?_; rotate_left; intro kk v w2 hmem hr2 hk2 hs2 hent; obtain ⟨c, hc, rfl⟩ := mem_ckv hmem; rw [kdel_ckv] at hr2; have hsat := HS.out.keep hk2 (show ¬ sb = _ by omega) (show ¬ nb = _ by have := HNB.out; omega) (show ¬ ib = _ by have := HIB.out; omega) (show ¬ db = _ by have := HDB.out; omega) (show ¬ ab = _ by omega); obtain ⟨c3, c4, c6, c7, c8⟩ := HCELL.out _ _ hsat; clear c3 c4 c6 c8; have HSAT := Lib.hid hsat; have HA2 := Lib.hid (HA.out.keep hk2 (by omega) (fun j hj h => by omega)); have HR2 := Lib.hid hr2; have HK2 := Lib.hid (HK.out.trans hk2 (fun b hb h => by omega)); obtain ⟨m, hm, hml, hfm⟩ := HFROM.out kk (List.mem_map_of_mem (f := Prod.fst) (HSUB.out.mem hc)); have HM := Lib.hid hm; have HFM := Lib.hid hfm; have HCC := Lib.hid hc; clear hmem hr2 hk2 hsat hc hm hfm; rotate_left; intro hnil; have HNIL := Lib.hid hnil; clear hnil)
          | (((with_reducible refine (HFM.out w2 HK2.out).mono ?_); rintro e w3 ⟨tv, rfl, hto⟩)))
        · go_end0
          have hR : R = [] := by have := HNIL.out; simpa [ckv] using this
          subst hR
          exact ⟨rfl, HS.out, KS, HA.out, HD.out, HK.out⟩
        · obtain ⟨it, g, rfl, hi, h1, h2, hk3⟩ := hto
          have HI := Lib.hid hi
          have HR3 := Lib.hid (HR2.out.keep hk3 (fun h => h) (fun h => h))
          have HS3 := Lib.hid (HSAT.out.keepF hk3)
          have HA3 := Lib.hid (HA2.out.keep hk3 (fun h => h) (fun _ _ h => h))
          have HK3 := Lib.hid (HK2.out.trans hk3 (fun _ _ h => h.elim))
          have HMID := Lib.hid (MidK.start (m := m) (c := c) HD.out)
          have hi1 : wr.heap.size ≤ it := by rw [← hs2]; exact h1
          have hi2 : wr.heap.size ≤ g := by rw [← hs2]; exact h2
          clear hi hk3 HR2 HSAT HA2 HK2 HD HR HS HA HK c7 hent h1 h2
          generalize gk = go at *
          go_loopg [] (m.length + 1) (fun gk2 wx => ∃ (t : Nat) (KS : Nat → List Int), t + gk2 = m.length + 1 ∧ t ≤ m.length ∧ Iter wx it g (m.map nodeV) t ∧ Rng wx (w.heap.size + k) cb (ckv C) (ckv (cdel R kk)) ∧ Sat wx ⟨sb, nb, noff, ncap, ib, db, ab, l⟩ pb cnt curr heur (.map (some cb)) wk ∧ AdjK wx ab k w.heap.size k KS ∧ MidK G C R l k m c t KS ∧ Keep (fun b => b = sb ∨ b = ab) w wx)
          case atStart => exact ⟨0, KS, by omega, by omega, HI.out, HR3.out, HS3.out, HA3.out, HMID.out, HK3.out⟩
          case round =>
            obtain ⟨t, KS, hgk2, htm, hi, hr, hs, ha, hd, hk⟩ := hrel
            clear HI HR3 HS3 HA3 HK3 HMID
            have HI := Lib.hid hi
            have HR := Lib.hid hr
            have HS := Lib.hid hs
            have HA := Lib.hid ha
            have HD := Lib.hid hd
            have HK := Lib.hid hk
            have HGK2 := Lib.hid hgk2
            clear hi hr hs ha hd hk hgk2
            by_cases hlt : t < m.length
            · obtain ⟨v, hv⟩ : ∃ v, m[t]? = some v := ⟨_, List.getElem?_eq_getElem hlt⟩
              obtain ⟨j, hj, hlj, hlk⟩ := HIDX.out kk v ((HM.out v).1 (List.mem_of_getElem? hv))
              have HV := Lib.hid hv
              have HLJ := Lib.hid hlj
              have HLK := Lib.hid hlk
              clear hv hlj hlk
              go_upto_region 11 with (first
                | (((with_reducible refine (Next_true HI.out hlt).mono ?_); rintro e w4 ⟨rfl, hi4, hk4, hs4⟩); have hsat := HS.out.keep hk4 (show ¬ sb = _ by omega) (show ¬ nb = _ by have := HNB.out; omega) (show ¬ ib = _ by have := HIB.out; omega) (show ¬ db = _ by have := HDB.out; omega) (show ¬ ab = _ by omega); obtain ⟨c3, c4, c6, c7, c8⟩ := HCELL.out _ _ hsat; clear c3 c7 c8; have hadj := HA.out.keep hk4 (by omega) (fun j hj h => by omega); have cab := hadj.cell hj; have HS4 := Lib.hid hsat; have HA4 := Lib.hid hadj; have HR4 := Lib.hid (HR.out.keep hk4 (by omega) (by omega)); have HI4 := Lib.hid hi4; have HK4 := Lib.hid (HK.out.trans hk4 (fun b hb h => by omega)); clear hsat hadj hi4 hk4))
              have hkd : ∀ q, Keep (fun _ => False) w4 (w4.drewN q) := fun q => (Keep.refl _ w4).drewN q
              have HKD := Lib.hid hkd
              clear hkd
              have hfin : ∀ w6, SetAt w6 (w.heap.size + j) (sadd (KS j) (c : Int)) → Keep (fun b => b = w.heap.size + j) w4 w6 → ∃ (t' : Nat) (KS : Nat → List Int), t' + (gk - 1) = m.length + 1 ∧ t' ≤ m.length ∧ Iter w6 it g (m.map nodeV) t' ∧ Rng w6 (w.heap.size + k) cb (ckv C) (ckv (cdel R kk)) ∧ Sat w6 ⟨sb, nb, noff, ncap, ib, db, ab, l⟩ pb cnt curr heur (.map (some cb)) wk ∧ AdjK w6 ab k w.heap.size k KS ∧ MidK G C R l k m c t' KS ∧ Keep (fun b => b = sb ∨ b = ab) w w6 := fun w6 h6 hk6 =>
                ⟨t + 1, _, by have := HGK2.out; omega, by omega, HI4.out.keep hk6 (by omega) (by omega), HR4.out.keep hk6 (by omega) (by omega), HS4.out.keep hk6 (show ¬ sb = _ by omega) (show ¬ nb = _ by have := HNB.out; omega) (show ¬ ib = _ by have := HIB.out; omega) (show ¬ db = _ by have := HDB.out; omega) (show ¬ ab = _ by omega), HA4.out.add (by omega) hk6 h6, HD.out.step HN.out HLJ.out HV.out, HK4.out.trans hk6 (fun b hb h => by omega)⟩
              have HFIN := Lib.hid hfin
              have hgp : 0 < gk := by have := HGK2.out; omega
              clear hfin
              go_region_with (first
                | (((with_reducible refine (Node_at (HI4.out.keep ((Keep.refl (fun _ => False) w4).drew) (fun h => h) (fun h => h)) HV.out).mono ?_); rintro e w5 ⟨rfl, q, rfl⟩); have hlk := HLK.out _ _ (HS4.out.keepF (HKD.out (1 + q))); have HSET := Lib.hid ((HA4.out.keep (HKD.out (1 + q)) (fun h => h) (fun _ _ h => h)).get hj))
                | (((with_reducible refine (ID_at _ _).mono ?_); rintro e w5 ⟨rfl, rfl⟩))
                | (((with_reducible refine (AddI_spec HSET.out _).mono ?_); rintro e w6 ⟨rfl, h6, hk6, hs6⟩); have H6 := Lib.hid h6; have HK6 := Lib.hid ((HKD.out (1 + q) |>.mono (T := fun b => b = w.heap.size + j) (fun _ _ h => h.elim)).trans hk6 (fun _ _ h => h)); clear h6 hk6 hs6))
              all_goals (go_wp2_with fail)
              all_goals go_roundg (gk - 1)
              all_goals first
                | exact HFIN.out _ H6.out HK6.out
                | omega
            · obtain rfl : t = m.length := by omega
              go_wp2_with (first
                | (((with_reducible refine (Next_false HI.out).mono ?_); rintro e w4 ⟨rfl, hk4, hs4⟩); have HK4 := Lib.hid hk4; clear hk4))
              go_roundg ((cdel R kk).length + 1)
              case measure => have := HGK.out; have := cdel_length HCC.out; omega
              case rel => exact ⟨cdel R kk, KS, rfl, HR.out.keep HK4.out (by omega) (by omega), (List.filter_sublist).trans HSUB.out, HS.out.keep HK4.out (show ¬ sb = _ by omega) (show ¬ nb = _ by have := HNB.out; omega) (show ¬ ib = _ by have := HIB.out; omega) (show ¬ db = _ by have := HDB.out; omega) (show ¬ ab = _ by omega), HA.out.keep HK4.out (by omega) (fun j hj h => by omega), HD.out.done HND.out HSUB.out HCC.out HM.out, HK.out.trans HK4.out (fun b hb h => by omega)⟩
end Go.Proofs.YtdaccgelmcmfjaaGreatDoor
