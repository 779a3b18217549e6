/- product.Tensor: the edges that it lays (written by gen_prod.py). -/
import Derived.Test.YtdaccgelmcmfjaaGreatDoorJP4
import Derived.Test.YtdaccgelmcmfjaaGreatDoorJC
import Derived.Deep.CutRange
import Derived.Deep.RegionLaw
set_option linter.all false
namespace Go.Proofs.YtdaccgelmcmfjaaGreatDoor
open Go.RowKit Go.V
set_option maxHeartbeats 16000000 in
set_option maxRecDepth 100000 in
theorem prodTens_spec {B1 pa pb bb : Nat} {w : World} {GA GB : PG} (hA : Plain B1 w pa GA) (hB : Plain B1 w pb GB) (hB1 : B1 ≤ bb) (UA : UG GA) (UB : UG GB) (a0 : 0 < GA.ids.length) (b0 : 0 < GB.ids.length) (a1 : GA.ids.length ≤ 8) (b1 : GB.ids.length ≤ 8) (hbd : Bd0 w bb) :
    Calls Tryz.prog 13 #[.iface 60 (.pointer (some ⟨bb, 0, none⟩)), gV pa, gV pb] w (ProdPost w bb (pairsOf GA.ids GB.ids) (eTens GA.ids GB.ids (nbo GA) (nbo GB))) := by
  unfold ProdPost
  have hbl := hbd.lt
  have hcn := cartNodes_spec hA hB (by omega) a0 b0 (by omega) (by omega)
  have hfa := fun k u (hu : GA.ids[k]? = some u) W hk => nbo_from hA hB1 hu W hk
  have hfb := fun k u (hu : GB.ids[k]? = some u) W hk => nbo_from hB hB1 hu W hk
  have hnfa := nilFrom pa
  have hnfb := nilFrom pb
  have hna := PG.ids_nodup hA.ok
  have hnb := PG.ids_nodup hB.ok
  have hla : ∀ k u, GA.ids[k]? = some u → (nbo GA u).length ≤ 8 ∧ ∀ (t : Nat) v, (nbo GA u)[t]? = some v → ∃ k', GA.ids[k']? = some v := fun k u hu => by
    rw [nbo_at hA.ok hu]
    refine ⟨Nat.le_trans (PG.nbr_length hA.ok hu) a1, fun t v hv => ?_⟩
    have := (PG.mem_nbr hA.ok hu v).1 (List.mem_of_getElem? hv)
    obtain ⟨i, j, l, h1, h2, h3⟩ := this
    exact ⟨j, h2⟩
  have hlb : ∀ k u, GB.ids[k]? = some u → (nbo GB u).length ≤ 8 ∧ ∀ (t : Nat) v, (nbo GB u)[t]? = some v → ∃ k', GB.ids[k']? = some v := fun k u hu => by
    rw [nbo_at hB.ok hu]
    refine ⟨Nat.le_trans (PG.nbr_length hB.ok hu) b1, fun t v hv => ?_⟩
    have := (PG.mem_nbr hB.ok hu v).1 (List.mem_of_getElem? hv)
    obtain ⟨i, j, l, h1, h2, h3⟩ := this
    exact ⟨j, h2⟩
  have hpl := fun (i j : Nat) (a b : Int) => @place_of GA.ids GB.ids hna hnb i j a b
  have hmul : GA.ids.length * GB.ids.length ≤ 64 := Nat.le_trans (Nat.mul_le_mul a1 b1) (by decide)
  have hpos : 0 < GA.ids.length * GB.ids.length := Nat.mul_pos a0 b0
  have hPl := pairsOf_length GA.ids GB.ids
  have hPn := pairsOf_nodup hna hnb
  have hPi : ∀ k p, (pairsOf GA.ids GB.ids)[k]? = some p → (pairsOf GA.ids GB.ids).idxOf p = k := fun k p hp => by
    obtain ⟨h1, h2⟩ := List.getElem?_eq_some_iff.1 hp
    rw [← h2]; exact hPn.idxOf_getElem _ h1
  unfold CNPost at hcn
  generalize nbo GA = fa at *
  generalize nbo GB = fb at *
  generalize GA.ids = A at *
  generalize GB.ids = B at *
  have hrow : ∀ k, k < (pairsOf A B).length → ∃ p, (pairsOf A B)[k]? = some p := fun k hk => ⟨_, List.getElem?_eq_getElem hk⟩
  have hia := fun W v (h : Row W.heap.size W v (A.map nodeV)) => indexOf_spec h hna (by omega)
  have hib := fun W v (h : Row W.heap.size W v (B.map nodeV)) => indexOf_spec h hnb (by omega)
  rw [hPl] at hrow
  generalize hNN : A.length * B.length = N at *
  generalize hnn : A.length = n at *
  generalize hmm : B.length = m at *
  have HCN := Lib.hid hcn
  have HFA := Lib.hid hfa
  have HFB := Lib.hid hfb
  have HLA := Lib.hid hla
  have HLB := Lib.hid hlb
  have HPL := Lib.hid hpl
  have HPLEN := Lib.hid hPl
  have HPI := Lib.hid hPi
  have HROW := Lib.hid hrow
  have HIA := Lib.hid hia
  have HIB := Lib.hid hib
  have HNA := Lib.hid hnn
  have HNB := Lib.hid hmm
  have HBD := Lib.hid hbd
  have HDA := Lib.hid hna
  have HDB := Lib.hid hnb
  have d1 : ((N : Int) == 0) = false := by rw [beq_eq_false_iff_ne]; omega
  clear hcn hfa hfb hla hlb hpl hPl hPi hPn hrow hia hib hNN hnn hmm hbd hna hnb hA hB UA UB
  go_enter Tryz.func13, Tryz.ntmps13
  go_upto_region 4 with (first
    | (((with_reducible refine (HCN.out).mono ?_); rintro e w1 ⟨av, bv, gp, rfl, hra, hrb, hp, hgl, hga, hgb, hk1⟩); obtain ⟨aa, ac, rfl, hac⟩ := node_cells hra HNA.out hga hbl; obtain ⟨ba, bc, rfl, hbc⟩ := node_cells hrb HNB.out hgb hbl; clear hga hgb; have HRA := Lib.hid hra; have HRB := Lib.hid hrb; have HAC := Lib.hid hac; have HBC := Lib.hid hbc; have HP := Lib.hid hp; have HK1 := Lib.hid hk1; clear hra hrb hac hbc hp hk1)
    | (((with_reducible refine (HIA.out _ _ HRA.out).mono ?_); rintro e w2 ⟨ma, rfl, hml, hma, hk2⟩); have HMA := Lib.hid hma; have HK2 := Lib.hid hk2; have HRB2 := Lib.hid ((HRB.out.keep hk2 (fun _ h => h.elim)).mono hk2.size); clear hma hk2)
    | (((with_reducible refine (HIB.out _ _ HRB2.out).mono ?_); rintro e w3 ⟨mb, rfl, hml3, hmb, hk3⟩); have HMB := Lib.hid hmb; have HK3 := Lib.hid hk3; clear hmb hk3))
  have hk13 := HK2.out.trans HK3.out (fun _ _ h => h)
  have hk03 := HK1.out.trans hk13 (fun _ _ h => h)
  have hb3 : Bd w3 bb (bb + 1) (pairsOf A B) (.slice none 0 0) [] (.slice none 0 0) [] := (Bd0.bd HBD.out).keepF hk03
  have hp3 := HP.out.keep hk13 (fun h => h)
  have hma3 := HMA.out.keepF HK3.out
  have hz1 := HK1.out.size
  have hz2 := HK2.out.size
  have hz3 := HK3.out.size
  have hmal := HMA.out.lt
  have hmbl := HMB.out.lt
  have hgpl := HP.out.lt
  have HK13 := Lib.hid hk13
  have HK03 := Lib.hid hk03
  have HB3 := Lib.hid hb3
  have HP3 := Lib.hid hp3
  have HMA3 := Lib.hid hma3
  clear hk13 hk03 hb3 hp3 hma3 HRA HRB HRB2 HIA HIB HCN HBD HK1 HK2 HK3 HMA HP
  go_wp2_with fail
  go_loopg [37] (N + 1) (fun gk i wr => ∃ (k : Nat) (nv : Value), i = .int .i64 (k : Int) ∧ k + gk = N + 1 ∧ k ≤ N ∧ Bd wr bb (bb + 1) (pairsOf A B) nv ((pairsOf A B).take k) (.slice none 0 0) [] ∧ (∀ g, nv.ownBlock = some g → w3.heap.size ≤ g) ∧ Keep (fun b => b = bb) w3 wr)
  case atStart => exact ⟨0, _, rfl, by omega, Nat.zero_le _, HB3.out, fun g hg => (by cases hg), Keep.refl _ _⟩
  case round =>
    obtain ⟨k, nv, rfl, hgk, hkN, hb, hnv, hk⟩ := hrel
    clear HB3
    have HB := Lib.hid hb
    have HNV := Lib.hid hnv
    have HK := Lib.hid hk
    have HGK := Lib.hid hgk
    clear hb hnv hk hgk
    by_cases hlt : k < N
    · obtain ⟨⟨a, b⟩, hab⟩ := HROW.out k hlt
      obtain ⟨c0, c1, c2⟩ := (HP3.out.keep HK.out (show ¬ gp = bb by omega)).cells hlt hab
      have hwr := HK.out.size
      have hadd := addNode_at (a := a) (b := b) (HB.out.keepF ((Keep.refl (fun _ => False) wr).alloc (.cells #[.int .i64 (k : Int), nodeV a, nodeV b] 86 (0, 0)))) (HPI.out k _ hab) (by simp; omega) (by simp; omega)
      have HADD := Lib.hid hadd
      have HAB := Lib.hid hab
      clear hadd hab
      go_wp2_with (first
        | (((with_reducible refine (HADD.out).mono ?_); rintro e w4 ⟨rfl, nv', q1, q2, q3⟩); have Q1 := Lib.hid q1; have Q2 := Lib.hid q2; have Q3 := Lib.hid q3; clear q1 q2 q3))
      go_roundg (gk - 1)
      case measure => have := HGK.out; omega
      case rel =>
        refine ⟨k + 1, nv', by go_num, by have := HGK.out; omega, by omega, ?_, fun g hg => ?_, (HK.out.alloc _).trans Q3.out (fun b hb e => ?_)⟩
        · rw [List.take_add_one, HAB.out]; exact Q1.out
        · rcases Q2.out with e | ⟨g', e, h⟩
          · rw [e] at hg; exact HNV.out g hg
          · rw [e] at hg; cases hg; simp at h; omega
        · rcases e with e | e
          · exact e
          · have := HNV.out b e; omega
    · obtain rfl : N = k := by omega
      have hwr := HK.out.size
      have hb4 : Bd wr bb (bb + 1) (pairsOf A B) nv (pairsOf A B) (.slice none 0 0) [] := by
        have := HB.out
        rwa [← HPLEN.out, List.take_length] at this
      have hw5 := heap_new wr (.cells #[.int .i64 (n : Int), .int .i64 (m : Int)] 3 (0, 0))
      have hk5 : Keep (fun _ => False) wr (wr.alloc (.cells #[.int .i64 (n : Int), .int .i64 (m : Int)] 3 (0, 0))) := (Keep.refl _ wr).alloc _
      have hs5 : wr.heap.size < (wr.alloc (.cells #[.int .i64 (n : Int), .int .i64 (m : Int)] 3 (0, 0))).heap.size := by simp
      go_upto_region 10 with fail
      generalize (wr.alloc (.cells #[.int .i64 (n : Int), .int .i64 (m : Int)] 3 (0, 0))) = w5 at *
      have hd5 : Two w5 wr.heap.size (n : Int) (m : Int) := hw5
      have hk15 : Keep (fun b => b = bb) w1 w5 := ((HK13.out.mono (fun _ _ h => h.elim)).trans HK.out (fun _ _ h => h)).trans hk5 (fun _ _ h => h.elim)
      have hp5 := (HP3.out.keep HK.out (show ¬ gp = bb by omega)).keep hk5 (fun h => h)
      have hma5 := (HMA3.out.keep HK.out (show ¬ ma = bb by omega)).keepF hk5
      have hmb5 := (HMB.out.keep HK.out (show ¬ mb = bb by omega)).keepF hk5
      have hps : PS w5 (.slice none 0 0) w5 bb bb (pairsOf A B) nv (.slice none 0 0) [] :=
        ⟨hb4.keepF hk5, Keep.refl _ _, fun g hg => (by cases hg), by omega, by omega, fun g hg => (by cases hg), fun h => absurd rfl h, fun g hg => ⟨by have := (hb4.nodes.lt g hg).2; omega, by have := HNV.out g hg; omega, by have := HNV.out g hg; omega, fun e => (by cases e)⟩⟩
      have hk05 : Keep (fun b => b = bb) w w5 := (HK03.out.mono (fun _ _ h => h.elim)).trans (HK.out.trans hk5 (fun _ _ h => h.elim)) (fun _ _ h => h)
      have hdb : wr.heap.size ≠ bb := by omega
      generalize wr.heap.size = d at *
      have HD5 := Lib.hid hd5
      have HK15 := Lib.hid hk15
      have HP5 := Lib.hid hp5
      have HMA5 := Lib.hid hma5
      have HMB5 := Lib.hid hmb5
      have HPS := Lib.hid hps
      have HK05 := Lib.hid hk05
      clear hd5 hk15 hp5 hma5 hmb5 hps hk05 hb4 hw5 hk5 HB HNV HK HGK HP3 HMA3 HMB HK13 HK03 HROW HPI HPLEN
      have heK : eTens A B fa fb = A.flatMap (fun au => (fa au).flatMap (fun va => B.flatMap (fun bu => (fb bu).map (fun vb => ((au, bu), (va, vb)))))) := rfl
      have HEK := Lib.hid heK
      clear heK
      have hkp : ∀ wr ev es, PS w5 (.slice none 0 0) wr bb bb (pairsOf A B) nv ev es → Keep (fun b => b = bb ∨ b = bb) w5 wr := fun _ _ _ h => keepBB h.keep
      have HKP := Lib.hid hkp
      clear hkp
      go_wp2_with fail
      go_loopg [53] (n + 1) (fun gk q wr => ∃ (i : Nat) (ev1 : Value) (es1 : List Lnk), q = .int .i64 (i : Int) ∧ i + gk = n + 1 ∧ i ≤ n ∧ es1 = ([] : List Lnk) ++ (A.take i).flatMap (fun au => (fa au).flatMap (fun va => B.flatMap (fun bu => (fb bu).map (fun vb => ((au, bu), (va, vb)))))) ∧ es1.length ≤ 0 + i * 512 ∧ PS w5 (.slice none 0 0) wr bb bb (pairsOf A B) nv ev1 es1)
      case atStart => exact ⟨0, .slice none 0 0, ([] : List Lnk), rfl, by omega, Nat.zero_le _, by simp, (by first | omega | simp), HPS.out⟩
      case round =>
        rename World => ww1
        obtain ⟨i, ev1, es1, rfl, hgk, hin1, hes, hel1, hps⟩ := hrel
        clear HPS
        have HPS1 := Lib.hid hps
        have HES1 := Lib.hid hes
        have HGK1 := Lib.hid hgk
        clear hps hes hgk
        by_cases hlt1 : i < n
        · obtain ⟨bq1, off1, au, rfl, hxv, hcv⟩ := HAC.out i hlt1
          have cc1 := hcv ww1 (HK15.out.trans (HKP.out _ _ _ HPS1.out) (fun b hb h => by omega))
          have HAU := Lib.hid hxv
          clear hcv hxv
          have hl2 := (HLA.out i au HAU.out).1
          have hkj : Keep (fun b => b = bb) w ww1 := HK05.out.trans (HKP.out _ _ _ HPS1.out) (fun b hb h => by omega)
          have HKJ2 := Lib.hid hkj
          clear hkj
          go_upto_region 13 with fail; go_cut [16] from 58 to 64 (fun tv wx => FromAt ww1 wx tv (fa au)); case first => (go_region_with (first | (((with_reducible refine (ID_spec _ _).mono ?_); rintro e w3 ⟨rfl, rfl⟩)) | (((with_reducible refine (HFA.out i au HAU.out _ (HKJ2.out.drew)).mono ?_); rintro e w3 ⟨tv, rfl, hto⟩))); all_goals (go_wp2_with fail); all_goals go_meet; all_goals exact FromAt.undrew hto)
          obtain ⟨it2, g2i, rfl, hpi⟩ := PI.start (HPS1.out) hcut
          have HPI2 := Lib.hid hpi
          clear hcut hpi HKJ2 HPS1
          generalize gk = g1 at *
          go_wp2_with fail
          go_loopg [] ((fa au).length + 1) (fun gk wr => ∃ (ta : Nat) (ev2 : Value) (es2 : List Lnk), ta + gk = (fa au).length + 1 ∧ ta ≤ (fa au).length ∧ es2 = es1 ++ ((fa au).take ta).flatMap (fun va => B.flatMap (fun bu => (fb bu).map (fun vb => ((au, bu), (va, vb))))) ∧ es2.length ≤ 0 + i * 512 + ta * 64 ∧ PI w5 (.slice none 0 0) wr bb bb (pairsOf A B) nv ev2 es2 it2 g2i (fa au) ta)
          case atStart => exact ⟨0, ev1, es1, by omega, Nat.zero_le _, by simp, by omega, HPI2.out⟩
          case round =>
            rename World => ww2
            obtain ⟨ta, ev2, es2, hgk, htl2, hes, hel2, hpi⟩ := hrel
            clear HPI2
            have HPI2 := Lib.hid hpi
            have HES2 := Lib.hid hes
            have HGK2 := Lib.hid hgk
            clear hpi hes hgk
            by_cases htt2 : ta < (fa au).length
            · obtain ⟨va, hv⟩ : ∃ v, (fa au)[ta]? = some v := ⟨_, List.getElem?_eq_getElem htt2⟩
              obtain ⟨k_va, hk2⟩ := (HLA.out i au HAU.out).2 ta va hv
              have hlt_va : k_va < n := by have := (List.getElem?_eq_some_iff.1 hk2).1; rw [HNA.out] at this; exact this
              have HVVA := Lib.hid hv
              have HVA := Lib.hid hk2
              clear hv hk2
              go_wp2_with (first
                | (((with_reducible refine (Next_true HPI2.out.iter htt2).mono ?_); rintro e y2 ⟨rfl, q1, q2, q3⟩); have hpi7 := HPI2.out.next q1 q2; have HPN2 := Lib.hid hpi7; clear q1 q2 q3 hpi7)
                | (((with_reducible refine (Node_at HPN2.out.iter HVVA.out).mono ?_); rintro e z3 ⟨rfl, qd2, rfl⟩); have hpi8 := HPN2.out.keepF ((Keep.refl (fun _ => False) y2).drewN qd2); have HPM2 := Lib.hid hpi8; clear hpi8)
                | (((with_reducible refine (ID_spec _ _).mono ?_); rintro e z3 ⟨rfl, rfl⟩))
                | (at_lookup; refine wpList_lookup_kv rfl _ _ _ _ rfl 2 3 Tryz.underlying83 Tryz.underlying2 (.int .i64 0) zeroI ma _ va rfl rfl (HMA5.out.keep (HKP.out _ _ _ HPM2.out.ps) (by omega)) ?_; rw [show kget (ckv A.zipIdx) va = some (.int .i64 (k_va : Int)) from (by rw [kget_ckv, (cget_zip' HDA.out).2 HVA.out]; rfl)]))
              have hrb := HPM2.out.ps.rebase
              have HRB2 := Lib.hid hrb
              clear hrb
              generalize gk = g2 at *
              go_loopg [74] (m + 1) (fun gk q wr => ∃ (j : Nat) (ev3 : Value) (es3 : List Lnk), q = .int .i64 (j : Int) ∧ j + gk = m + 1 ∧ j ≤ m ∧ es3 = es2 ++ (B.take j).flatMap (fun bu => (fb bu).map (fun vb => ((au, bu), (va, vb)))) ∧ es3.length ≤ 0 + i * 512 + ta * 64 + j * 8 ∧ PS (y2.drewN qd2) ev2 wr bb bb (pairsOf A B) nv ev3 es3)
              case atStart => exact ⟨0, ev2, es2, rfl, by omega, Nat.zero_le _, by simp, (by first | omega | simp), HRB2.out⟩
              case round =>
                rename World => ww3
                obtain ⟨j, ev3, es3, rfl, hgk, hin3, hes, hel3, hps⟩ := hrel
                clear HRB2 HPI2 HPN2
                have HPS3 := Lib.hid hps
                have HES3 := Lib.hid hes
                have HGK3 := Lib.hid hgk
                clear hps hes hgk
                by_cases hlt3 : j < m
                · obtain ⟨bq3, off3, bu, rfl, hxv, hcv⟩ := HBC.out j hlt3
                  have cc3 := hcv ww3 (HK15.out.trans (HKP.out _ _ _ (HPM2.out.trans (HPS3.out)).ps) (fun b hb h => by omega))
                  have HBU := Lib.hid hxv
                  clear hcv hxv
                  have hl4 := (HLB.out j bu HBU.out).1
                  have hkj : Keep (fun b => b = bb) w ww3 := HK05.out.trans (HKP.out _ _ _ (HPM2.out.trans (HPS3.out)).ps) (fun b hb h => by omega)
                  have HKJ4 := Lib.hid hkj
                  clear hkj
                  go_upto_region 19 with fail; go_cut [20] from 79 to 85 (fun tv wx => FromAt ww3 wx tv (fb bu)); case first => (go_region_with (first | (((with_reducible refine (ID_spec _ _).mono ?_); rintro e w3 ⟨rfl, rfl⟩)) | (((with_reducible refine (HFB.out j bu HBU.out _ (HKJ4.out.drew)).mono ?_); rintro e w3 ⟨tv, rfl, hto⟩))); all_goals (go_wp2_with fail); all_goals go_meet; all_goals exact FromAt.undrew hto)
                  obtain ⟨it4, g4i, rfl, hpi⟩ := PI.start (HPS3.out) hcut
                  have HPI4 := Lib.hid hpi
                  clear hcut hpi HKJ4 HPS3
                  generalize gk = g3 at *
                  go_wp2_with fail
                  go_loopg [] ((fb bu).length + 1) (fun gk wr => ∃ (tb : Nat) (ev4 : Value) (es4 : List Lnk), tb + gk = (fb bu).length + 1 ∧ tb ≤ (fb bu).length ∧ es4 = es3 ++ ((fb bu).take tb).map (fun vb => ((au, bu), (va, vb))) ∧ es4.length ≤ 0 + i * 512 + ta * 64 + j * 8 + tb * 1 ∧ PI (y2.drewN qd2) ev2 wr bb bb (pairsOf A B) nv ev4 es4 it4 g4i (fb bu) tb)
                  case atStart => exact ⟨0, ev3, es3, by omega, Nat.zero_le _, by simp, by omega, HPI4.out⟩
                  case round =>
                    rename World => ww4
                    obtain ⟨tb, ev4, es4, hgk, htl4, hes, hel4, hpi⟩ := hrel
                    clear HPI4
                    have HPI4 := Lib.hid hpi
                    have HES4 := Lib.hid hes
                    have HGK4 := Lib.hid hgk
                    clear hpi hes hgk
                    by_cases htt4 : tb < (fb bu).length
                    · obtain ⟨vb, hv⟩ : ∃ v, (fb bu)[tb]? = some v := ⟨_, List.getElem?_eq_getElem htt4⟩
                      obtain ⟨k_vb, hk2⟩ := (HLB.out j bu HBU.out).2 tb vb hv
                      have hlt_vb : k_vb < m := by have := (List.getElem?_eq_some_iff.1 hk2).1; rw [HNB.out] at this; exact this
                      have HVVB := Lib.hid hv
                      have HVB := Lib.hid hk2
                      clear hv hk2
                      go_upto_region 21 with (first
                        | (((with_reducible refine (Next_true HPI4.out.iter htt4).mono ?_); rintro e y4 ⟨rfl, q1, q2, q3⟩); have hpi7 := HPI4.out.next q1 q2; have HPN4 := Lib.hid hpi7; clear q1 q2 q3 hpi7))
                      obtain ⟨q1, e1, l1, m1, x1⟩ := HPL.out i j au bu HAU.out HBU.out
                      obtain ⟨q2, e2, l2, m2, x2⟩ := HPL.out k_va k_vb va vb HVA.out HVB.out
                      have hkb := HKP.out _ _ _ (HPM2.out.trans (HPN4.out.ps)).ps
                      refine tens_region (bb := bb) (lo := bb + 1) (gp := gp) (d := d) (nA := n) (nB := m) (N := N) (q1 := q1) (q2 := q2) (h := k_va) (i := i) (j := j) (k := k_vb) (A := A) (B := B) (p1 := (au, bu)) (p2 := (va, vb)) (it_k := it4) (g_k := g4i) (t_k := tb) (l_k := fb bu) rfl rfl rfl rfl rfl rfl rfl rfl rfl (HPN4.out.ps).bd (HPN4.out.ps).bbw (by omega) (HP5.out.keep hkb (by omega)) (HD5.out.keep hkb (by omega)) (by omega) (by omega) (HPN4.out.iter) HVVB.out (HMB5.out.keep hkb (by omega)) HDB.out HVB.out hlt1 hlt3 e1 l1 m1 x1 hlt_va hlt_vb e2 l2 m2 x2 ?_
                      rintro f vv wx ⟨ev5, z1, z2, z3⟩
                      have hpi8 := (HPN4.out).edge z1 z2 z3
                      rw [putAll_tens]
                      simp only [Act.put, List.setIfInBounds_toArray, List.set_cons_zero, List.set_cons_succ]
                      have HPE5 := Lib.hid hpi8
                      clear z1 z2 z3 hpi8 HPI4 HPN4 hkb
                      go_wp2_with fail
                      go_roundg (gk - 1)
                      case measure => have := HGK4.out; omega
                      case rel => exact ⟨tb + 1, ev5, _, by have := HGK4.out; omega, by omega, by rw [map_step HVVB.out, ← List.append_assoc, ← HES4.out], by simp; omega, HPE5.out⟩
                    · obtain rfl : tb = (fb bu).length := by omega
                      have heq : es4 = es3 ++ (fb bu).map (fun vb => ((au, bu), (va, vb))) := by
                        have := HES4.out
                        rwa [List.take_length] at this
                      have HEQ4 := Lib.hid heq
                      clear heq HES4 HGK4
                      go_wp2_with (first
                        | (((with_reducible refine (Next_false HPI4.out.iter).mono ?_); rintro e z4 ⟨rfl, q2, q3⟩); have hps7 := HPI4.out.done q2; have HPS4 := Lib.hid hps7; clear q2 q3 hps7))
                      clear HPI4
                      go_roundg (g3 - 1)
                      case measure => have := HGK3.out; omega
                      case rel => exact ⟨j + 1, ev4, es4, by go_num, by have := HGK3.out; omega, by omega, by rw [flat_step HBU.out, HEQ4.out, HES3.out]; simp [List.append_assoc], by omega, HPS4.out⟩
                · obtain rfl : m = j := by omega
                  have heq : es3 = es2 ++ B.flatMap (fun bu => (fb bu).map (fun vb => ((au, bu), (va, vb)))) := by
                    have := HES3.out
                    rwa [← HNB.out, List.take_length] at this
                  have HEQ3 := Lib.hid heq
                  clear heq HES3 HGK3
                  go_wp2_with fail
                  go_roundg (g2 - 1)
                  case measure => have := HGK2.out; omega
                  case rel => exact ⟨ta + 1, ev3, es3, by have := HGK2.out; omega, by omega, by rw [flat_step HVVA.out, HEQ3.out, HES2.out]; simp [List.append_assoc], by omega, HPM2.out.trans (HPS3.out)⟩
            · obtain rfl : ta = (fa au).length := by omega
              have heq : es2 = es1 ++ (fa au).flatMap (fun va => B.flatMap (fun bu => (fb bu).map (fun vb => ((au, bu), (va, vb))))) := by
                have := HES2.out
                rwa [List.take_length] at this
              have HEQ2 := Lib.hid heq
              clear heq HES2 HGK2
              go_wp2_with (first
                | (((with_reducible refine (Next_false HPI2.out.iter).mono ?_); rintro e z2 ⟨rfl, q2, q3⟩); have hps7 := HPI2.out.done q2; have HPS2 := Lib.hid hps7; clear q2 q3 hps7))
              clear HPI2
              go_roundg (g1 - 1)
              case measure => have := HGK1.out; omega
              case rel => exact ⟨i + 1, ev2, es2, by go_num, by have := HGK1.out; omega, by omega, by rw [flat_step HAU.out, HEQ2.out, HES1.out]; simp [List.append_assoc], by omega, HPS2.out⟩
        · obtain rfl : n = i := by omega
          have heq : es1 = ([] : List Lnk) ++ A.flatMap (fun au => (fa au).flatMap (fun va => B.flatMap (fun bu => (fb bu).map (fun vb => ((au, bu), (va, vb)))))) := by
            have := HES1.out
            rwa [← HNA.out, List.take_length] at this
          have HEQ1 := Lib.hid heq
          clear heq HES1 HGK1
          have hes' : es1 = eTens A B fa fb := by rw [HEK.out, HEQ1.out]; simp [List.append_assoc]
          have hkf : Keep (fun b => b = bb) w ww1 := HK05.out.trans (HKP.out _ _ _ (HPS1.out)) (fun b hb h => by omega)
          have hbf := (HPS1.out).bd
          rw [hes'] at hbf
          have HKF := Lib.hid hkf
          have HBF := Lib.hid hbf
          clear hes' hkf hbf HPS1
          go_wp2_with fail
          go_returns
          exact ⟨rfl, nv, ev1, HBF.out, HKF.out⟩
end Go.Proofs.YtdaccgelmcmfjaaGreatDoor
