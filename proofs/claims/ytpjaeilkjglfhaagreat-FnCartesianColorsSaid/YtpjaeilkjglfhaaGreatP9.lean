/- product.CoN: the edges that it lays (written by gen_prod.py). -/
import Derived.Test.YtpjaeilkjglfhaaGreatJP4
import Derived.Test.YtpjaeilkjglfhaaGreatJD
import Derived.Deep.CutRange
import Derived.Deep.RegionLaw
set_option linter.all false
namespace Go.Proofs.YtpjaeilkjglfhaaGreat
open Go.RowKit Go.V
set_option maxHeartbeats 16000000 in
set_option maxRecDepth 100000 in
theorem prodCoN_spec {B1 pa pb bb : Nat} {w : World} {GA GB : PG} (hA : Plain B1 w pa GA) (hB : Plain B1 w pb GB) (hB1 : B1 ≤ bb) (UA : UG GA) (UB : UG GB) (a0 : 0 < GA.ids.length) (b0 : 0 < GB.ids.length) (a1 : GA.ids.length ≤ 8) (b1 : GB.ids.length ≤ 8) (hbd : Bd0 w bb) :
    Calls Tryz.prog 150 #[.iface 97 (.pointer (some ⟨bb, 0, none⟩)), gV pa, gV pb] w (ProdPost w bb (pairsOf GA.ids GB.ids) (eCoN GA.ids GB.ids (nbo GA) (nbo GB))) := by
  unfold ProdPost
  have hbl := hbd.lt
  have hcn := cartNodes_spec hA hB (by omega) a0 b0 (by omega) (by omega)
  have hfa := fun k u (hu : GA.ids[k]? = some u) W hk => nbo_from hA hB1 hu W hk
  have hfb := fun k u (hu : GB.ids[k]? = some u) W hk => nbo_from hB hB1 hu W hk
  have hnfa := nilFrom pa
  have hnfb := nilFrom pb
  have hna := PG.ids_nodup hA.ok
  have hnb := PG.ids_nodup hB.ok
  have hla : ∀ k u, GA.ids[k]? = some u → (nbo GA u).length ≤ 8 ∧ ∀ (t : Nat) v, (nbo GA u)[t]? = some v → ∃ k', GA.ids[k']? = some v := fun k u hu => by
    rw [nbo_at hA.ok hu]
    refine ⟨Nat.le_trans (PG.nbr_length hA.ok hu) a1, fun t v hv => ?_⟩
    have := (PG.mem_nbr hA.ok hu v).1 (List.mem_of_getElem? hv)
    obtain ⟨i, j, l, h1, h2, h3⟩ := this
    exact ⟨j, h2⟩
  have hlb : ∀ k u, GB.ids[k]? = some u → (nbo GB u).length ≤ 8 ∧ ∀ (t : Nat) v, (nbo GB u)[t]? = some v → ∃ k', GB.ids[k']? = some v := fun k u hu => by
    rw [nbo_at hB.ok hu]
    refine ⟨Nat.le_trans (PG.nbr_length hB.ok hu) b1, fun t v hv => ?_⟩
    have := (PG.mem_nbr hB.ok hu v).1 (List.mem_of_getElem? hv)
    obtain ⟨i, j, l, h1, h2, h3⟩ := this
    exact ⟨j, h2⟩
  have hpl := fun (i j : Nat) (a b : Int) => @place_of GA.ids GB.ids hna hnb i j a b
  have hmul : GA.ids.length * GB.ids.length ≤ 64 := Nat.le_trans (Nat.mul_le_mul a1 b1) (by decide)
  have hpos : 0 < GA.ids.length * GB.ids.length := Nat.mul_pos a0 b0
  have hPl := pairsOf_length GA.ids GB.ids
  have hPn := pairsOf_nodup hna hnb
  have hPi : ∀ k p, (pairsOf GA.ids GB.ids)[k]? = some p → (pairsOf GA.ids GB.ids).idxOf p = k := fun k p hp => by
    obtain ⟨h1, h2⟩ := List.getElem?_eq_some_iff.1 hp
    rw [← h2]; exact hPn.idxOf_getElem _ h1
  unfold CNPost at hcn
  generalize nbo GA = fa at *
  generalize nbo GB = fb at *
  generalize GA.ids = A at *
  generalize GB.ids = B at *
  have hrow : ∀ k, k < (pairsOf A B).length → ∃ p, (pairsOf A B)[k]? = some p := fun k hk => ⟨_, List.getElem?_eq_getElem hk⟩
  have hia := fun W v (h : Row W.heap.size W v (A.map nodeV)) => indexOf_spec h hna (by omega)
  have hib := fun W v (h : Row W.heap.size W v (B.map nodeV)) => indexOf_spec h hnb (by omega)
  rw [hPl] at hrow
  generalize hNN : A.length * B.length = N at *
  have hsqA : ∀ k, k < A.length * A.length → ∃ (px py : Nat) (c1 c2 : Int), px < A.length ∧ py < A.length ∧ px * A.length + py = k ∧ A[px]? = some c1 ∧ A[py]? = some c2 ∧ (pairsOf A A)[k]? = some (c1, c2) := fun k hk => sq_of hk
  have hsqB : ∀ k, k < B.length * B.length → ∃ (px py : Nat) (c1 c2 : Int), px < B.length ∧ py < B.length ∧ px * B.length + py = k ∧ B[px]? = some c1 ∧ B[py]? = some c2 ∧ (pairsOf B B)[k]? = some (c1, c2) := fun k hk => sq_of hk
  have hlA2 := pairsOf_length A A
  have hlB2 := pairsOf_length B B
  have hmA2 : A.length * A.length ≤ 64 := Nat.le_trans (Nat.mul_le_mul a1 a1) (by decide)
  have hmB2 : B.length * B.length ≤ 64 := Nat.le_trans (Nat.mul_le_mul b1 b1) (by decide)
  generalize hMA : A.length * A.length = MA at *
  generalize hMB : B.length * B.length = MB at *
  generalize hnn : A.length = n at *
  generalize hmm : B.length = m at *
  have HCN := Lib.hid hcn
  have HFA := Lib.hid hfa
  have HFB := Lib.hid hfb
  have HLA := Lib.hid hla
  have HLB := Lib.hid hlb
  have HPL := Lib.hid hpl
  have HPLEN := Lib.hid hPl
  have HPI := Lib.hid hPi
  have HROW := Lib.hid hrow
  have HIA := Lib.hid hia
  have HIB := Lib.hid hib
  have HNA := Lib.hid hnn
  have HNB := Lib.hid hmm
  have HBD := Lib.hid hbd
  have HDA := Lib.hid hna
  have HSQA := Lib.hid hsqA
  have HSQB := Lib.hid hsqB
  have HLA2 := Lib.hid hlA2
  have HLB2 := Lib.hid hlB2
  have HMA2 := Lib.hid hMA
  have HMB2 := Lib.hid hMB
  clear hsqA hsqB hlA2 hlB2 hMA hMB
  have HDB := Lib.hid hnb
  have d1 : ((N : Int) == 0) = false := by rw [beq_eq_false_iff_ne]; omega
  clear hcn hfa hfb hla hlb hpl hPl hPi hPn hrow hia hib hNN hnn hmm hbd hna hnb hA hB UA UB
  go_enter Tryz.func150, Tryz.ntmps150
  go_upto_region 4 with (first
    | (((with_reducible refine (HCN.out).mono ?_); rintro e w1 ⟨av, bv, gp, rfl, hra, hrb, hp, hgl, hga, hgb, hk1⟩); obtain ⟨aa, ac, rfl, hac⟩ := node_cells hra HNA.out hga hbl; obtain ⟨ba, bc, rfl, hbc⟩ := node_cells hrb HNB.out hgb hbl; clear hga hgb; have HRA := Lib.hid hra; have HRB := Lib.hid hrb; have HAC := Lib.hid hac; have HBC := Lib.hid hbc; have HP := Lib.hid hp; have HK1 := Lib.hid hk1; clear hra hrb hac hbc hp hk1)
    | (((with_reducible refine (HIA.out _ _ HRA.out).mono ?_); rintro e w2 ⟨ma, rfl, hml, hma, hk2⟩); have HMA := Lib.hid hma; have HK2 := Lib.hid hk2; have HRB2 := Lib.hid ((HRB.out.keep hk2 (fun _ h => h.elim)).mono hk2.size); clear hma hk2)
    | (((with_reducible refine (HIB.out _ _ HRB2.out).mono ?_); rintro e w3 ⟨mb, rfl, hml3, hmb, hk3⟩); have HMB := Lib.hid hmb; have HK3 := Lib.hid hk3; clear hmb hk3))
  have hk13 := HK2.out.trans HK3.out (fun _ _ h => h)
  have hk03 := HK1.out.trans hk13 (fun _ _ h => h)
  have hb3 : Bd w3 bb (bb + 1) (pairsOf A B) (.slice none 0 0) [] (.slice none 0 0) [] := (Bd0.bd HBD.out).keepF hk03
  have hp3 := HP.out.keep hk13 (fun h => h)
  have hma3 := HMA.out.keepF HK3.out
  have hz1 := HK1.out.size
  have hz2 := HK2.out.size
  have hz3 := HK3.out.size
  have hmal := HMA.out.lt
  have hmbl := HMB.out.lt
  have hgpl := HP.out.lt
  have HK13 := Lib.hid hk13
  have HK03 := Lib.hid hk03
  have HB3 := Lib.hid hb3
  have HP3 := Lib.hid hp3
  have HMA3 := Lib.hid hma3
  clear hk13 hk03 hb3 hp3 hma3 HRA HRB HRB2 HIA HIB HCN HBD HK1 HK2 HK3 HMA HP
  go_wp2_with fail
  go_loopg [41] (N + 1) (fun gk i wr => ∃ (k : Nat) (nv : Value), i = .int .i64 (k : Int) ∧ k + gk = N + 1 ∧ k ≤ N ∧ Bd wr bb (bb + 1) (pairsOf A B) nv ((pairsOf A B).take k) (.slice none 0 0) [] ∧ (∀ g, nv.ownBlock = some g → w3.heap.size ≤ g) ∧ Keep (fun b => b = bb) w3 wr)
  case atStart => exact ⟨0, _, rfl, by omega, Nat.zero_le _, HB3.out, fun g hg => (by cases hg), Keep.refl _ _⟩
  case round =>
    obtain ⟨k, nv, rfl, hgk, hkN, hb, hnv, hk⟩ := hrel
    clear HB3
    have HB := Lib.hid hb
    have HNV := Lib.hid hnv
    have HK := Lib.hid hk
    have HGK := Lib.hid hgk
    clear hb hnv hk hgk
    by_cases hlt : k < N
    · obtain ⟨⟨a, b⟩, hab⟩ := HROW.out k hlt
      obtain ⟨c0, c1, c2⟩ := (HP3.out.keep HK.out (show ¬ gp = bb by omega)).cells hlt hab
      have hwr := HK.out.size
      have hadd := addNode_at (a := a) (b := b) (HB.out.keepF ((Keep.refl (fun _ => False) wr).alloc (.cells #[.int .i64 (k : Int), nodeV a, nodeV b] 146 (0, 0)))) (HPI.out k _ hab) (by simp; omega) (by simp; omega)
      have HADD := Lib.hid hadd
      have HAB := Lib.hid hab
      clear hadd hab
      go_wp2_with (first
        | (((with_reducible refine (HADD.out).mono ?_); rintro e w4 ⟨rfl, nv', q1, q2, q3⟩); have Q1 := Lib.hid q1; have Q2 := Lib.hid q2; have Q3 := Lib.hid q3; clear q1 q2 q3))
      go_roundg (gk - 1)
      case measure => have := HGK.out; omega
      case rel =>
        refine ⟨k + 1, nv', by go_num, by have := HGK.out; omega, by omega, ?_, fun g hg => ?_, (HK.out.alloc _).trans Q3.out (fun b hb e => ?_)⟩
        · rw [List.take_add_one, HAB.out]; exact Q1.out
        · rcases Q2.out with e | ⟨g', e, h⟩
          · rw [e] at hg; exact HNV.out g hg
          · rw [e] at hg; cases hg; simp at h; omega
        · rcases e with e | e
          · exact e
          · have := HNV.out b e; omega
    · obtain rfl : N = k := by omega
      have hwr := HK.out.size
      have hb4 : Bd wr bb (bb + 1) (pairsOf A B) nv (pairsOf A B) (.slice none 0 0) [] := by
        have := HB.out
        rwa [← HPLEN.out, List.take_length] at this
      have hw5 : Two ((wr.alloc (.cells #[.int .i64 (n : Int), .int .i64 (m : Int)] 3 (0, 0))).alloc (.cells #[.int .i64 0, .int .i64 0] 3 (0, 0))) wr.heap.size (n : Int) (m : Int) := (heap_old (w := (wr.alloc (.cells #[.int .i64 (n : Int), .int .i64 (m : Int)] 3 (0, 0)))) (by simp)).trans (heap_new wr _)
      have ht5 : Two ((wr.alloc (.cells #[.int .i64 (n : Int), .int .i64 (m : Int)] 3 (0, 0))).alloc (.cells #[.int .i64 0, .int .i64 0] 3 (0, 0))) (wr.heap.size + 1) 0 0 := by have h := heap_new (wr.alloc (.cells #[.int .i64 (n : Int), .int .i64 (m : Int)] 3 (0, 0))) (.cells #[.int .i64 0, .int .i64 0] 3 (0, 0)); rw [World.size_alloc] at h; exact h
      have hmt : (Instr.makeSlice 22 (.int .i64 2) (.int .i64 2)).run Tryz.prog (wr.alloc (.cells #[.int .i64 (n : Int), .int .i64 (m : Int)] 3 (0, 0))) = .ok (twoV (wr.heap.size + 1)) ((wr.alloc (.cells #[.int .i64 (n : Int), .int .i64 (m : Int)] 3 (0, 0))).alloc (.cells #[.int .i64 0, .int .i64 0] 3 (0, 0))) := by
        have := mkTwo (wr.alloc (.cells #[.int .i64 (n : Int), .int .i64 (m : Int)] 3 (0, 0)))
        rwa [World.size_alloc] at this
      have hk5 : Keep (fun _ => False) wr ((wr.alloc (.cells #[.int .i64 (n : Int), .int .i64 (m : Int)] 3 (0, 0))).alloc (.cells #[.int .i64 0, .int .i64 0] 3 (0, 0))) := ((Keep.refl _ wr).alloc _).alloc _
      have hs5 : wr.heap.size + 1 < ((wr.alloc (.cells #[.int .i64 (n : Int), .int .i64 (m : Int)] 3 (0, 0))).alloc (.cells #[.int .i64 0, .int .i64 0] 3 (0, 0))).heap.size := by simp
      go_upto_region 11 with fail
      clear hmt
      generalize ((wr.alloc (.cells #[.int .i64 (n : Int), .int .i64 (m : Int)] 3 (0, 0))).alloc (.cells #[.int .i64 0, .int .i64 0] 3 (0, 0))) = w5 at *
      have hd5 : Two w5 wr.heap.size (n : Int) (m : Int) := hw5
      have hk15 : Keep (fun b => b = bb) w1 w5 := ((HK13.out.mono (fun _ _ h => h.elim)).trans HK.out (fun _ _ h => h)).trans hk5 (fun _ _ h => h.elim)
      have hp5 := (HP3.out.keep HK.out (show ¬ gp = bb by omega)).keep hk5 (fun h => h)
      have hma5 := (HMA3.out.keep HK.out (show ¬ ma = bb by omega)).keepF hk5
      have hmb5 := (HMB.out.keep HK.out (show ¬ mb = bb by omega)).keepF hk5
      have hps : PS w5 (.slice none 0 0) w5 bb (wr.heap.size + 1) (pairsOf A B) nv (.slice none 0 0) [] :=
        ⟨hb4.keepF hk5, Keep.refl _ _, fun g hg => (by cases hg), by omega, by omega, fun g hg => (by cases hg), fun _ => ⟨0, 0, ht5⟩, fun g hg => ⟨by have := (hb4.nodes.lt g hg).2; omega, by have := HNV.out g hg; omega, by have := (hb4.nodes.lt g hg).2; omega, fun e => (by cases e)⟩⟩
      have hk05 : Keep (fun b => b = bb) w w5 := (HK03.out.mono (fun _ _ h => h.elim)).trans (HK.out.trans hk5 (fun _ _ h => h.elim)) (fun _ _ h => h)
      have hdb : wr.heap.size ≠ bb := by omega
      have hds : wr.heap.size < wr.heap.size + 1 := Nat.lt_succ_self _
      have hsb : wr.heap.size + 1 ≠ bb := by omega
      have hs3 : w3.heap.size ≤ wr.heap.size + 1 := by omega
      clear ht5
      generalize wr.heap.size + 1 = s at *
      generalize wr.heap.size = d at *
      have HD5 := Lib.hid hd5
      have HK15 := Lib.hid hk15
      have HP5 := Lib.hid hp5
      have HMA5 := Lib.hid hma5
      have HMB5 := Lib.hid hmb5
      have HPS := Lib.hid hps
      have HK05 := Lib.hid hk05
      clear hd5 hk15 hp5 hma5 hmb5 hps hk05 hb4 hw5 hk5 HB HNV HK HGK HP3 HMA3 HMB HK13 HK03 HROW HPI HPLEN
      have heK : eCoN A B fa fb = (A.flatMap (fun au => (fa au).flatMap (fun va => (pairsOf B B).map (fun p => ((au, p.1), (va, p.2)))))) ++ (B.flatMap (fun bu => (fb bu).flatMap (fun vb => (pairsOf A A).map (fun p => ((p.1, bu), (p.2, vb)))))) := rfl
      have HEK := Lib.hid heK
      clear heK
      have hkp : ∀ wr ev es, PS w5 (.slice none 0 0) wr bb s (pairsOf A B) nv ev es → Keep (fun b => b = bb ∨ b = s) w5 wr := fun _ _ _ h => keepBB h.keep
      have HKP := Lib.hid hkp
      clear hkp
      go_wp2_with fail
      go_loopg [14, 58] (n + 1) (fun gk pv q wr => ∃ (i : Nat) (ev1 : Value) (es1 : List Lnk), q = .int .i64 (i : Int) ∧ pv = twoV s ∧ i + gk = n + 1 ∧ i ≤ n ∧ es1 = ([] : List Lnk) ++ (A.take i).flatMap (fun au => (fa au).flatMap (fun va => (pairsOf B B).map (fun p => ((au, p.1), (va, p.2))))) ∧ es1.length ≤ 0 + i * 512 ∧ PS w5 (.slice none 0 0) wr bb s (pairsOf A B) nv ev1 es1)
      case atStart => exact ⟨0, .slice none 0 0, ([] : List Lnk), rfl, rfl, by omega, Nat.zero_le _, by simp, (by first | omega | simp), HPS.out⟩
      case round =>
        rename World => ww1
        obtain ⟨i, ev1, es1, rfl, rfl, hgk, hin1, hes, hel1, hps⟩ := hrel
        clear HPS
        have HPS1 := Lib.hid hps
        have HES1 := Lib.hid hes
        have HGK1 := Lib.hid hgk
        clear hps hes hgk
        by_cases hlt1 : i < n
        · obtain ⟨bq1, off1, au, rfl, hxv, hcv⟩ := HAC.out i hlt1
          have cc1 := hcv ww1 (HK15.out.trans (HKP.out _ _ _ HPS1.out) (fun b hb h => by omega))
          have HAU := Lib.hid hxv
          clear hcv hxv
          have hl2 := (HLA.out i au HAU.out).1
          have hkj : Keep (fun b => b = bb) w ww1 := HK05.out.trans (HKP.out _ _ _ HPS1.out) (fun b hb h => by omega)
          have HKJ2 := Lib.hid hkj
          clear hkj
          go_upto_region 14 with fail; go_cut [17] from 63 to 69 (fun tv wx => FromAt ww1 wx tv (fa au)); case first => (go_region_with (first | (((with_reducible refine (ID_spec _ _).mono ?_); rintro e w3 ⟨rfl, rfl⟩)) | (((with_reducible refine (HFA.out i au HAU.out _ (HKJ2.out.drew)).mono ?_); rintro e w3 ⟨tv, rfl, hto⟩))); all_goals (go_wp2_with fail); all_goals go_meet; all_goals exact FromAt.undrew hto)
          obtain ⟨it2, g2i, rfl, hpi⟩ := PI.start (HPS1.out) hcut
          have HPI2 := Lib.hid hpi
          clear hcut hpi HKJ2 HPS1
          generalize gk = g1 at *
          go_wp2_with fail
          go_loopg [14] ((fa au).length + 1) (fun gk pv wr => ∃ (ta : Nat) (ev2 : Value) (es2 : List Lnk), pv = twoV s ∧ ta + gk = (fa au).length + 1 ∧ ta ≤ (fa au).length ∧ es2 = es1 ++ ((fa au).take ta).flatMap (fun va => (pairsOf B B).map (fun p => ((au, p.1), (va, p.2)))) ∧ es2.length ≤ 0 + i * 512 + ta * 64 ∧ PI w5 (.slice none 0 0) wr bb s (pairsOf A B) nv ev2 es2 it2 g2i (fa au) ta)
          case atStart => exact ⟨0, ev1, es1, rfl, by omega, Nat.zero_le _, by simp, by omega, HPI2.out⟩
          case round =>
            rename World => ww2
            obtain ⟨ta, ev2, es2, rfl, hgk, htl2, hes, hel2, hpi⟩ := hrel
            clear HPI2
            have HPI2 := Lib.hid hpi
            have HES2 := Lib.hid hes
            have HGK2 := Lib.hid hgk
            clear hpi hes hgk
            by_cases htt2 : ta < (fa au).length
            · obtain ⟨va, hv⟩ : ∃ v, (fa au)[ta]? = some v := ⟨_, List.getElem?_eq_getElem htt2⟩
              obtain ⟨k_va, hk2⟩ := (HLA.out i au HAU.out).2 ta va hv
              have hlt_va : k_va < n := by have := (List.getElem?_eq_some_iff.1 hk2).1; rw [HNA.out] at this; exact this
              have HVVA := Lib.hid hv
              have HVA := Lib.hid hk2
              clear hv hk2
              go_upto_region 17 with (first
                | (((with_reducible refine (Next_true HPI2.out.iter htt2).mono ?_); rintro e y2 ⟨rfl, q1, q2, q3⟩); have hpi7 := HPI2.out.next q1 q2; have HPN2 := Lib.hid hpi7; clear q1 q2 q3 hpi7)
                | (((with_reducible refine (Node_at HPN2.out.iter HVVA.out).mono ?_); rintro e z3 ⟨rfl, qd2, rfl⟩); have hpi8 := HPN2.out.keepF ((Keep.refl (fun _ => False) y2).drewN qd2); have HPM2 := Lib.hid hpi8; clear hpi8)
                | (((with_reducible refine (ID_spec _ _).mono ?_); rintro e z3 ⟨rfl, rfl⟩))
                | (at_lookup; refine wpList_lookup_kv rfl _ _ _ _ rfl 2 3 Tryz.underlying60 Tryz.underlying2 (.int .i64 0) zeroI ma _ va rfl rfl (HMA5.out.keep (HKP.out _ _ _ HPM2.out.ps) (by omega)) ?_; rw [show kget (ckv A.zipIdx) va = some (.int .i64 (k_va : Int)) from (by rw [kget_ckv, (cget_zip' HDA.out).2 HVA.out]; rfl)]))
              generalize (y2.drewN qd2) = wv2 at *
              have hrb := HPM2.out.ps.rebase
              have HRB2 := Lib.hid hrb
              clear hrb
              have hng := newGen_at wv2 m (by omega)
              have HNG3 := Lib.hid hng
              clear hng
              generalize gk = g2 at *
              go_wp2_with (first
                | (((with_reducible refine (HNG3.out).mono ?_); rintro e wg3 ⟨rfl, y1, y2, y3⟩); have hpg := PGn.start (HRB2.out) y1 y2 y3; have HPG3 := Lib.hid hpg; clear y1 y2 y3 hpg))
              clear HNG3 HRB2 HPI2 HPN2
              generalize hdd : wv2.heap.size = dd3 at *
              clear hdd
              go_loopg [14] (MB + 1) (fun gk pv wr => ∃ (kk : Nat) (ev3 : Value) (es3 : List Lnk), pv = twoV s ∧ kk + gk = MB + 1 ∧ kk ≤ MB ∧ es3 = es2 ++ ((pairsOf B B).take kk).map (fun p => ((au, p.1), (va, p.2))) ∧ es3.length ≤ 0 + i * 512 + ta * 64 + kk ∧ PGn wv2 ev2 wr bb s (pairsOf A B) nv ev3 es3 (dd3 + 1) dd3 m kk)
              case atStart => exact ⟨0, ev2, es2, rfl, by omega, Nat.zero_le _, by simp, by omega, HPG3.out⟩
              case round =>
                rename World => ww3
                obtain ⟨kk, ev3, es3, rfl, hgk, hkl3, hes, hel3, hpg⟩ := hrel
                clear HPG3
                have HPG3 := Lib.hid hpg
                have HES3 := Lib.hid hes
                have HGK3 := Lib.hid hgk
                clear hpg hes hgk
                by_cases hkt3 : kk < MB
                · obtain ⟨px, py, c1, c2, hpx, hpy, hpk, hc1, hc2, hcc⟩ := HSQB.out kk hkt3
                  have HPK3 := Lib.hid hpk
                  have HC13 := Lib.hid hc1
                  have HC23 := Lib.hid hc2
                  have HCC3 := Lib.hid hcc
                  clear hpk hc1 hc2 hcc
                  go_upto_region 20 with (first
                    | (((with_reducible refine (gnext_true HPG3.out (by rw [HMB2.out]; exact hkt3) (by omega)).mono ?_); rintro e y3 ⟨rfl, y1⟩); have HPN3 := Lib.hid y1; clear y1)
                    | (((with_reducible refine (gprod HPN3.out hsb HPK3.out hpx hpy (by omega)).mono ?_); rintro e z3 ⟨rfl, y1, y2⟩); have HPM3 := Lib.hid y1; have HTW3 := Lib.hid y2; clear y1 y2))
                  obtain ⟨q1, e1, l1, m1, x1⟩ := HPL.out i px au c1 HAU.out HC13.out
                  obtain ⟨q2, e2, l2, m2, x2⟩ := HPL.out k_va py va c2 HVA.out HC23.out
                  have hkb := HKP.out _ _ _ (HPM2.out.trans (HPM3.out.ps)).ps
                  refine conP_region (bb := bb) (lo := bb + 1) (gp := gp) (d := d) (nA := n) (nB := m) (N := N) (q1 := q1) (q2 := q2) (h := k_va) (i := i) (px := px) (py := py) (s := s) (A := A) (B := B) (p1 := (au, c1)) (p2 := (va, c2)) rfl rfl rfl rfl rfl rfl rfl (HPM3.out.ps).bd (HPM3.out.ps).bbw (by omega) (HP5.out.keep hkb (by omega)) (HD5.out.keep hkb (by omega)) (by omega) (by omega) HTW3.out hlt1 hpx e1 l1 m1 x1 hlt_va hpy e2 l2 m2 x2 ?_
                  rintro f vv wx ⟨ev4, z1, z2, z3⟩
                  have hpi8 := (HPM3.out).edge z1 z2 z3
                  rw [putAll_conP]
                  simp only [Act.put, List.setIfInBounds_toArray, List.set_cons_zero, List.set_cons_succ]
                  have HPE4 := Lib.hid hpi8
                  clear z1 z2 z3 hpi8 HPG3 HPN3 HPM3 HTW3 hkb
                  go_wp2_with fail
                  go_roundg (gk - 1)
                  case measure => have := HGK3.out; omega
                  case rel => exact ⟨kk + 1, ev4, _, rfl, by have := HGK3.out; omega, by omega, by rw [map_step HCC3.out, ← List.append_assoc, ← HES3.out], by simp; omega, HPE4.out⟩
                · obtain rfl : MB = kk := by omega
                  have heq : es3 = es2 ++ (pairsOf B B).map (fun p => ((au, p.1), (va, p.2))) := by
                    have := HES3.out
                    rwa [← HLB2.out, List.take_length] at this
                  have HEQ3 := Lib.hid heq
                  clear heq HES3 HGK3
                  go_wp2_with (first
                    | (((with_reducible refine (gnext_false HPG3.out HMB2.out.symm (by omega)).mono ?_); rintro e z3 ⟨rfl, y1⟩); have HPS3 := Lib.hid y1; clear y1))
                  clear HPG3
                  go_roundg (g2 - 1)
                  case measure => have := HGK2.out; omega
                  case rel => exact ⟨ta + 1, ev3, es3, rfl, by have := HGK2.out; omega, by omega, by rw [flat_step HVVA.out, HEQ3.out, HES2.out]; simp [List.append_assoc], by omega, HPM2.out.trans (HPS3.out)⟩
            · obtain rfl : ta = (fa au).length := by omega
              have heq : es2 = es1 ++ (fa au).flatMap (fun va => (pairsOf B B).map (fun p => ((au, p.1), (va, p.2)))) := by
                have := HES2.out
                rwa [List.take_length] at this
              have HEQ2 := Lib.hid heq
              clear heq HES2 HGK2
              go_wp2_with (first
                | (((with_reducible refine (Next_false HPI2.out.iter).mono ?_); rintro e z2 ⟨rfl, q2, q3⟩); have hps7 := HPI2.out.done q2; have HPS2 := Lib.hid hps7; clear q2 q3 hps7))
              clear HPI2
              go_roundg (g1 - 1)
              case measure => have := HGK1.out; omega
              case rel => exact ⟨i + 1, ev2, es2, by go_num, rfl, by have := HGK1.out; omega, by omega, by rw [flat_step HAU.out, HEQ2.out, HES1.out]; simp [List.append_assoc], by omega, HPS2.out⟩
        · obtain rfl : n = i := by omega
          have heq : es1 = ([] : List Lnk) ++ A.flatMap (fun au => (fa au).flatMap (fun va => (pairsOf B B).map (fun p => ((au, p.1), (va, p.2))))) := by
            have := HES1.out
            rwa [← HNA.out, List.take_length] at this
          have HEQ1 := Lib.hid heq
          clear heq HES1 HGK1
          go_wp2_with fail
          go_loopg [14, 123] (m + 1) (fun gk pv q wr => ∃ (j : Nat) (ev5 : Value) (es5 : List Lnk), q = .int .i64 (j : Int) ∧ pv = twoV s ∧ j + gk = m + 1 ∧ j ≤ m ∧ es5 = es1 ++ (B.take j).flatMap (fun bu => (fb bu).flatMap (fun vb => (pairsOf A A).map (fun p => ((p.1, bu), (p.2, vb))))) ∧ es5.length ≤ 0 + 4096 + j * 512 ∧ PS w5 (.slice none 0 0) wr bb s (pairsOf A B) nv ev5 es5)
          case atStart => exact ⟨0, ev1, es1, rfl, rfl, by omega, Nat.zero_le _, by simp, (by first | omega | simp), HPS1.out⟩
          case round =>
            rename World => ww5
            obtain ⟨j, ev5, es5, rfl, rfl, hgk, hin5, hes, hel5, hps⟩ := hrel
            clear HPS1
            have HPS5 := Lib.hid hps
            have HES5 := Lib.hid hes
            have HGK5 := Lib.hid hgk
            clear hps hes hgk
            by_cases hlt5 : j < m
            · obtain ⟨bq5, off5, bu, rfl, hxv, hcv⟩ := HBC.out j hlt5
              have cc5 := hcv ww5 (HK15.out.trans (HKP.out _ _ _ HPS5.out) (fun b hb h => by omega))
              have HBU := Lib.hid hxv
              clear hcv hxv
              have hl6 := (HLB.out j bu HBU.out).1
              have hkj : Keep (fun b => b = bb) w ww5 := HK05.out.trans (HKP.out _ _ _ HPS5.out) (fun b hb h => by omega)
              have HKJ6 := Lib.hid hkj
              clear hkj
              go_upto_region 25 with fail; go_cut [22] from 128 to 134 (fun tv wx => FromAt ww5 wx tv (fb bu)); case first => (go_region_with (first | (((with_reducible refine (ID_spec _ _).mono ?_); rintro e w3 ⟨rfl, rfl⟩)) | (((with_reducible refine (HFB.out j bu HBU.out _ (HKJ6.out.drew)).mono ?_); rintro e w3 ⟨tv, rfl, hto⟩))); all_goals (go_wp2_with fail); all_goals go_meet; all_goals exact FromAt.undrew hto)
              obtain ⟨it6, g6i, rfl, hpi⟩ := PI.start (HPS5.out) hcut
              have HPI6 := Lib.hid hpi
              clear hcut hpi HKJ6 HPS5
              generalize gk = g5 at *
              go_wp2_with fail
              go_loopg [14] ((fb bu).length + 1) (fun gk pv wr => ∃ (tb : Nat) (ev6 : Value) (es6 : List Lnk), pv = twoV s ∧ tb + gk = (fb bu).length + 1 ∧ tb ≤ (fb bu).length ∧ es6 = es5 ++ ((fb bu).take tb).flatMap (fun vb => (pairsOf A A).map (fun p => ((p.1, bu), (p.2, vb)))) ∧ es6.length ≤ 0 + 4096 + j * 512 + tb * 64 ∧ PI w5 (.slice none 0 0) wr bb s (pairsOf A B) nv ev6 es6 it6 g6i (fb bu) tb)
              case atStart => exact ⟨0, ev5, es5, rfl, by omega, Nat.zero_le _, by simp, by omega, HPI6.out⟩
              case round =>
                rename World => ww6
                obtain ⟨tb, ev6, es6, rfl, hgk, htl6, hes, hel6, hpi⟩ := hrel
                clear HPI6
                have HPI6 := Lib.hid hpi
                have HES6 := Lib.hid hes
                have HGK6 := Lib.hid hgk
                clear hpi hes hgk
                by_cases htt6 : tb < (fb bu).length
                · obtain ⟨vb, hv⟩ : ∃ v, (fb bu)[tb]? = some v := ⟨_, List.getElem?_eq_getElem htt6⟩
                  obtain ⟨k_vb, hk2⟩ := (HLB.out j bu HBU.out).2 tb vb hv
                  have hlt_vb : k_vb < m := by have := (List.getElem?_eq_some_iff.1 hk2).1; rw [HNB.out] at this; exact this
                  have HVVB := Lib.hid hv
                  have HVB := Lib.hid hk2
                  clear hv hk2
                  go_upto_region 28 with (first
                    | (((with_reducible refine (Next_true HPI6.out.iter htt6).mono ?_); rintro e y6 ⟨rfl, q1, q2, q3⟩); have hpi7 := HPI6.out.next q1 q2; have HPN6 := Lib.hid hpi7; clear q1 q2 q3 hpi7)
                    | (((with_reducible refine (Node_at HPN6.out.iter HVVB.out).mono ?_); rintro e z3 ⟨rfl, qd6, rfl⟩); have hpi8 := HPN6.out.keepF ((Keep.refl (fun _ => False) y6).drewN qd6); have HPM6 := Lib.hid hpi8; clear hpi8)
                    | (((with_reducible refine (ID_spec _ _).mono ?_); rintro e z3 ⟨rfl, rfl⟩))
                    | (at_lookup; refine wpList_lookup_kv rfl _ _ _ _ rfl 2 3 Tryz.underlying60 Tryz.underlying2 (.int .i64 0) zeroI mb _ vb rfl rfl (HMB5.out.keep (HKP.out _ _ _ HPM6.out.ps) (by omega)) ?_; rw [show kget (ckv B.zipIdx) vb = some (.int .i64 (k_vb : Int)) from (by rw [kget_ckv, (cget_zip' HDB.out).2 HVB.out]; rfl)]))
                  generalize (y6.drewN qd6) = wv6 at *
                  have hrb := HPM6.out.ps.rebase
                  have HRB6 := Lib.hid hrb
                  clear hrb
                  have hng := newGen_at wv6 n (by omega)
                  have HNG7 := Lib.hid hng
                  clear hng
                  generalize gk = g6 at *
                  go_wp2_with (first
                    | (((with_reducible refine (HNG7.out).mono ?_); rintro e wg7 ⟨rfl, y1, y2, y3⟩); have hpg := PGn.start (HRB6.out) y1 y2 y3; have HPG7 := Lib.hid hpg; clear y1 y2 y3 hpg))
                  clear HNG7 HRB6 HPI6 HPN6
                  generalize hdd : wv6.heap.size = dd7 at *
                  clear hdd
                  go_loopg [14] (MA + 1) (fun gk pv wr => ∃ (kk : Nat) (ev7 : Value) (es7 : List Lnk), pv = twoV s ∧ kk + gk = MA + 1 ∧ kk ≤ MA ∧ es7 = es6 ++ ((pairsOf A A).take kk).map (fun p => ((p.1, bu), (p.2, vb))) ∧ es7.length ≤ 0 + 4096 + j * 512 + tb * 64 + kk ∧ PGn wv6 ev6 wr bb s (pairsOf A B) nv ev7 es7 (dd7 + 1) dd7 n kk)
                  case atStart => exact ⟨0, ev6, es6, rfl, by omega, Nat.zero_le _, by simp, by omega, HPG7.out⟩
                  case round =>
                    rename World => ww7
                    obtain ⟨kk, ev7, es7, rfl, hgk, hkl7, hes, hel7, hpg⟩ := hrel
                    clear HPG7
                    have HPG7 := Lib.hid hpg
                    have HES7 := Lib.hid hes
                    have HGK7 := Lib.hid hgk
                    clear hpg hes hgk
                    by_cases hkt7 : kk < MA
                    · obtain ⟨px, py, c1, c2, hpx, hpy, hpk, hc1, hc2, hcc⟩ := HSQA.out kk hkt7
                      have HPK7 := Lib.hid hpk
                      have HC17 := Lib.hid hc1
                      have HC27 := Lib.hid hc2
                      have HCC7 := Lib.hid hcc
                      clear hpk hc1 hc2 hcc
                      go_upto_region 31 with (first
                        | (((with_reducible refine (gnext_true HPG7.out (by rw [HMA2.out]; exact hkt7) (by omega)).mono ?_); rintro e y7 ⟨rfl, y1⟩); have HPN7 := Lib.hid y1; clear y1)
                        | (((with_reducible refine (gprod HPN7.out hsb HPK7.out hpx hpy (by omega)).mono ?_); rintro e z7 ⟨rfl, y1, y2⟩); have HPM7 := Lib.hid y1; have HTW7 := Lib.hid y2; clear y1 y2))
                      obtain ⟨q1, e1, l1, m1, x1⟩ := HPL.out px j c1 bu HC17.out HBU.out
                      obtain ⟨q2, e2, l2, m2, x2⟩ := HPL.out py k_vb c2 vb HC27.out HVB.out
                      have hkb := HKP.out _ _ _ (HPM6.out.trans (HPM7.out.ps)).ps
                      refine conQ_region (bb := bb) (lo := bb + 1) (gp := gp) (d := d) (nA := n) (nB := m) (N := N) (q1 := q1) (q2 := q2) (h := k_vb) (j := j) (px := px) (py := py) (s := s) (A := A) (B := B) (p1 := (c1, bu)) (p2 := (c2, vb)) rfl rfl rfl rfl rfl rfl rfl (HPM7.out.ps).bd (HPM7.out.ps).bbw (by omega) (HP5.out.keep hkb (by omega)) (HD5.out.keep hkb (by omega)) (by omega) (by omega) HTW7.out hpx hlt5 e1 l1 m1 x1 hpy hlt_vb e2 l2 m2 x2 ?_
                      rintro f vv wx ⟨ev8, z1, z2, z3⟩
                      have hpi8 := (HPM7.out).edge z1 z2 z3
                      rw [putAll_conQ]
                      simp only [Act.put, List.setIfInBounds_toArray, List.set_cons_zero, List.set_cons_succ]
                      have HPE8 := Lib.hid hpi8
                      clear z1 z2 z3 hpi8 HPG7 HPN7 HPM7 HTW7 hkb
                      go_wp2_with fail
                      go_roundg (gk - 1)
                      case measure => have := HGK7.out; omega
                      case rel => exact ⟨kk + 1, ev8, _, rfl, by have := HGK7.out; omega, by omega, by rw [map_step HCC7.out, ← List.append_assoc, ← HES7.out], by simp; omega, HPE8.out⟩
                    · obtain rfl : MA = kk := by omega
                      have heq : es7 = es6 ++ (pairsOf A A).map (fun p => ((p.1, bu), (p.2, vb))) := by
                        have := HES7.out
                        rwa [← HLA2.out, List.take_length] at this
                      have HEQ7 := Lib.hid heq
                      clear heq HES7 HGK7
                      go_wp2_with (first
                        | (((with_reducible refine (gnext_false HPG7.out HMA2.out.symm (by omega)).mono ?_); rintro e z7 ⟨rfl, y1⟩); have HPS7 := Lib.hid y1; clear y1))
                      clear HPG7
                      go_roundg (g6 - 1)
                      case measure => have := HGK6.out; omega
                      case rel => exact ⟨tb + 1, ev7, es7, rfl, by have := HGK6.out; omega, by omega, by rw [flat_step HVVB.out, HEQ7.out, HES6.out]; simp [List.append_assoc], by omega, HPM6.out.trans (HPS7.out)⟩
                · obtain rfl : tb = (fb bu).length := by omega
                  have heq : es6 = es5 ++ (fb bu).flatMap (fun vb => (pairsOf A A).map (fun p => ((p.1, bu), (p.2, vb)))) := by
                    have := HES6.out
                    rwa [List.take_length] at this
                  have HEQ6 := Lib.hid heq
                  clear heq HES6 HGK6
                  go_wp2_with (first
                    | (((with_reducible refine (Next_false HPI6.out.iter).mono ?_); rintro e z6 ⟨rfl, q2, q3⟩); have hps7 := HPI6.out.done q2; have HPS6 := Lib.hid hps7; clear q2 q3 hps7))
                  clear HPI6
                  go_roundg (g5 - 1)
                  case measure => have := HGK5.out; omega
                  case rel => exact ⟨j + 1, ev6, es6, by go_num, rfl, by have := HGK5.out; omega, by omega, by rw [flat_step HBU.out, HEQ6.out, HES5.out]; simp [List.append_assoc], by omega, HPS6.out⟩
            · obtain rfl : m = j := by omega
              have heq : es5 = es1 ++ B.flatMap (fun bu => (fb bu).flatMap (fun vb => (pairsOf A A).map (fun p => ((p.1, bu), (p.2, vb))))) := by
                have := HES5.out
                rwa [← HNB.out, List.take_length] at this
              have HEQ5 := Lib.hid heq
              clear heq HES5 HGK5
              have hes' : es5 = eCoN A B fa fb := by rw [HEK.out, HEQ5.out, HEQ1.out]; simp [List.append_assoc]
              have hkf : Keep (fun b => b = bb) w ww5 := HK05.out.trans (HKP.out _ _ _ (HPS5.out)) (fun b hb h => by omega)
              have hbf := (HPS5.out).bd
              rw [hes'] at hbf
              have HKF := Lib.hid hkf
              have HBF := Lib.hid hbf
              clear hes' hkf hbf HPS5
              go_wp2_with fail
              go_returns
              exact ⟨rfl, nv, ev5, HBF.out, HKF.out⟩
end Go.Proofs.YtpjaeilkjglfhaaGreat
