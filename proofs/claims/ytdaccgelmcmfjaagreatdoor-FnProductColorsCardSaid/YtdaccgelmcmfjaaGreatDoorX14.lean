/- laws.FnProductColors: yes, whatever the two graphs. -/
import Derived.Test.YtdaccgelmcmfjaaGreatDoorJX12
import Derived.Test.YtdaccgelmcmfjaaGreatDoorJX10
set_option linter.all false
namespace Go.Proofs.YtdaccgelmcmfjaaGreatDoor
open Go.RowKit Go.V
set_option maxHeartbeats 8000000 in
set_option maxRecDepth 20000 in
theorem law_spec {B : Nat} {w : World} {gav gbv : Value} {ga gb : IG} (hga : GraphAt B w gav ga) (hgb : GraphAt B w gbv gb) (hB : B ≤ w.heap.size) :
    Calls Tryz.prog 3 #[gav, gbv] w fun e w' => e = .returned (.bool true) ∧ Keep (fun _ => False) w w' := by
  have hza := fun W (hk : Keep (fun _ => False) w W) => zzFits_spec (hga.keepF hk)
  have hzb := fun W (hk : Keep (fun _ => False) w W) => zzFits_spec (hgb.keepF hk)
  have hfa : ∀ W (hk : Keep (fun _ => False) w W), Calls Tryz.prog 5 #[gav, .bool false, .int .i64 4] W (Tells W (FewU ga)) := fun W hk => fewOf_spec (hga.keepF hk)
  have hfb : ∀ W (hk : Keep (fun _ => False) w W), Calls Tryz.prog 5 #[gbv, .bool false, .int .i64 4] W (Tells W (FewU gb)) := fun W hk => fewOf_spec (hgb.keepF hk)
  have hts := fun (fa : FewU ga) (fb : FewU gb) (a0 : 0 < ga.nodes.length) (b0 : 0 < gb.nodes.length) W (hk : Keep (fun _ => False) w W) =>
    impTensor_spec (hga.keepF hk) (hgb.keepF hk) (Nat.le_trans hB hk.size) fa.good fb.good a0 b0 (by have := fa.2.1; omega) (by have := fb.2.1; omega)
  have hst := fun (fa : FewU ga) (fb : FewU gb) (a0 : 0 < ga.nodes.length) (b0 : 0 < gb.nodes.length) W (hk : Keep (fun _ => False) w W) =>
    impStrong_spec (hga.keepF hk) (hgb.keepF hk) (Nat.le_trans hB hk.size) fa.good fb.good a0 b0 (by have := fa.2.1; omega) (by have := fb.2.1; omega)
  have hda : ∀ (fa : FewU ga) (a0 : 0 < ga.nodes.length) W (hk : Keep (fun _ => False) w W), Calls Tryz.prog 8 #[gav] W (ChPost W ga) := fun fa a0 W hk =>
    chromatic_spec (hga.keepF hk) (Nat.le_trans hB hk.size) fa.good a0 (by have := fa.2.1; omega)
  have hdb : ∀ (fb : FewU gb) (b0 : 0 < gb.nodes.length) W (hk : Keep (fun _ => False) w W), Calls Tryz.prog 8 #[gbv] W (ChPost W gb) := fun fb b0 W hk =>
    chromatic_spec (hgb.keepF hk) (Nat.le_trans hB hk.size) fb.good b0 (by have := fb.2.1; omega)
  obtain ⟨na, nc, ea, ec, rfl, -, -⟩ := graph_lens hga
  obtain ⟨na', nc', ea', ec', rfl, -, -⟩ := graph_lens hgb
  obtain ⟨hb0, hb1, hk2⟩ := two_box w (.cells #[.bool ga.dir, .slice na ga.nodes.length nc, .slice ea ga.edges.length ec] 25 (0, 0)) (.cells #[.bool gb.dir, .slice na' gb.nodes.length nc', .slice ea' gb.edges.length ec'] 25 (0, 0))
  have hcb := fun W => boxG hb1 W
  have hcaa := fun W => boxG hb0 W
  have HZA := Lib.hid hza
  have HZB := Lib.hid hzb
  have HFA := Lib.hid hfa
  have HFB := Lib.hid hfb
  have HTS := Lib.hid hts
  have HST := Lib.hid hst
  have HDA := Lib.hid hda
  have HDB := Lib.hid hdb
  have HCA := Lib.hid hcaa
  have HCB := Lib.hid hcb
  have HK2 := Lib.hid hk2
  clear hza hzb hfa hfb hts hst hda hdb hcaa hcb hk2 hb0 hb1 hga hgb
  generalize hn : ga.nodes.length = n at *
  generalize hn' : gb.nodes.length = n' at *
  generalize ga.edges.length = m at *
  generalize gb.edges.length = m' at *
  generalize gb.dir = dir' at *
  generalize ga.dir = dir at *
  have HN := Lib.hid hn
  have HN' := Lib.hid hn'
  clear hn hn'
  unfold Tells at HFA HFB
  unfold ChPost at HDA HDB
  unfold ImpPost MulPost at HTS HST
  go_enter Tryz.func3, Tryz.ntmps3
  by_cases h0 : n = 0
  · subst h0
    go_wp2_with (first
      | (((with_reducible refine (HZA.out _ HK2.out).mono ?_); rintro e w1 ⟨b1, rfl, hk1⟩); have HKA := Lib.hid hk1; obtain ⟨p0, p1, p2⟩ := HCB.out w1 hk1; obtain ⟨r0, r1, r2⟩ := HCA.out w1 hk1; clear hk1; cases b1)
      | (((with_reducible refine (HZB.out _ (HK2.out.trans HKA.out (fun _ _ h => h))).mono ?_); rintro e w2 ⟨b2, rfl, hk2⟩); clear p0 p1 p2 r0 r1 r2; have HKB := Lib.hid (HKA.out.trans hk2 (fun _ _ h => h)); obtain ⟨p0, p1, p2⟩ := HCB.out w2 HKB.out; obtain ⟨r0, r1, r2⟩ := HCA.out w2 HKB.out; clear hk2; cases b2)
      | (((with_reducible refine (HFA.out _ (HK2.out.trans HKB.out (fun _ _ h => h))).mono ?_); rintro e w3 ⟨b3, rfl, hb3, hk3⟩); clear p0 p1 p2 r0 r1 r2; have HKC := Lib.hid (HKB.out.trans hk3 (fun _ _ h => h)); obtain ⟨p0, p1, p2⟩ := HCB.out w3 HKC.out; obtain ⟨r0, r1, r2⟩ := HCA.out w3 HKC.out; clear hk3 hb3; cases b3)
      | (((with_reducible refine (HFB.out _ (HK2.out.trans HKC.out (fun _ _ h => h))).mono ?_); rintro e w3' ⟨b3', rfl, hb3', hk3'⟩); clear p0 p1 p2 r0 r1 r2; have HKD := Lib.hid (HKC.out.trans hk3' (fun _ _ h => h)); obtain ⟨p0, p1, p2⟩ := HCB.out w3' HKD.out; obtain ⟨r0, r1, r2⟩ := HCA.out w3' HKD.out; clear hk3' hb3'; cases b3'))
    all_goals go_ret
    all_goals first
      | exact ⟨rfl, HK2.out.trans HKD.out (fun _ _ h => h)⟩
      | exact ⟨rfl, HK2.out.trans HKC.out (fun _ _ h => h)⟩
      | exact ⟨rfl, HK2.out.trans HKB.out (fun _ _ h => h)⟩
      | exact ⟨rfl, HK2.out.trans HKA.out (fun _ _ h => h)⟩
  · by_cases h0' : n' = 0
    · subst h0'
      have t1 : ((n : Int) == 0) = false := by rw [beq_eq_false_iff_ne]; omega
      go_wp2_with (first
        | (((with_reducible refine (HZA.out _ HK2.out).mono ?_); rintro e w1 ⟨b1, rfl, hk1⟩); have HKA := Lib.hid hk1; obtain ⟨p0, p1, p2⟩ := HCB.out w1 hk1; obtain ⟨r0, r1, r2⟩ := HCA.out w1 hk1; clear hk1; cases b1)
        | (((with_reducible refine (HZB.out _ (HK2.out.trans HKA.out (fun _ _ h => h))).mono ?_); rintro e w2 ⟨b2, rfl, hk2⟩); clear p0 p1 p2 r0 r1 r2; have HKB := Lib.hid (HKA.out.trans hk2 (fun _ _ h => h)); obtain ⟨p0, p1, p2⟩ := HCB.out w2 HKB.out; obtain ⟨r0, r1, r2⟩ := HCA.out w2 HKB.out; clear hk2; cases b2)
        | (((with_reducible refine (HFA.out _ (HK2.out.trans HKB.out (fun _ _ h => h))).mono ?_); rintro e w3 ⟨b3, rfl, hb3, hk3⟩); clear p0 p1 p2 r0 r1 r2; have HKC := Lib.hid (HKB.out.trans hk3 (fun _ _ h => h)); obtain ⟨p0, p1, p2⟩ := HCB.out w3 HKC.out; obtain ⟨r0, r1, r2⟩ := HCA.out w3 HKC.out; clear hk3 hb3; cases b3)
        | (((with_reducible refine (HFB.out _ (HK2.out.trans HKC.out (fun _ _ h => h))).mono ?_); rintro e w3' ⟨b3', rfl, hb3', hk3'⟩); clear p0 p1 p2 r0 r1 r2; have HKD := Lib.hid (HKC.out.trans hk3' (fun _ _ h => h)); obtain ⟨p0, p1, p2⟩ := HCB.out w3' HKD.out; obtain ⟨r0, r1, r2⟩ := HCA.out w3' HKD.out; clear hk3' hb3'; cases b3'))
      all_goals go_ret
      all_goals first
        | exact ⟨rfl, HK2.out.trans HKD.out (fun _ _ h => h)⟩
        | exact ⟨rfl, HK2.out.trans HKC.out (fun _ _ h => h)⟩
        | exact ⟨rfl, HK2.out.trans HKB.out (fun _ _ h => h)⟩
        | exact ⟨rfl, HK2.out.trans HKA.out (fun _ _ h => h)⟩
    · have t1 : ((n : Int) == 0) = false := by rw [beq_eq_false_iff_ne]; omega
      have t2 : ((n' : Int) == 0) = false := by rw [beq_eq_false_iff_ne]; omega
      go_upto_region 9 with (first
        | (((with_reducible refine (HZA.out _ HK2.out).mono ?_); rintro e w1 ⟨b1, rfl, hk1⟩); have HKA := Lib.hid hk1; obtain ⟨p0, p1, p2⟩ := HCB.out w1 hk1; obtain ⟨r0, r1, r2⟩ := HCA.out w1 hk1; clear hk1; cases b1)
        | (((with_reducible refine (HZB.out _ (HK2.out.trans HKA.out (fun _ _ h => h))).mono ?_); rintro e w2 ⟨b2, rfl, hk2⟩); clear p0 p1 p2 r0 r1 r2; have HKB := Lib.hid (HKA.out.trans hk2 (fun _ _ h => h)); obtain ⟨p0, p1, p2⟩ := HCB.out w2 HKB.out; obtain ⟨r0, r1, r2⟩ := HCA.out w2 HKB.out; clear hk2; cases b2)
        | (((with_reducible refine (HFA.out _ (HK2.out.trans HKB.out (fun _ _ h => h))).mono ?_); rintro e w3 ⟨b3, rfl, hb3, hk3⟩); clear p0 p1 p2 r0 r1 r2; have HB3 := Lib.hid hb3; have HKC := Lib.hid (HKB.out.trans hk3 (fun _ _ h => h)); obtain ⟨p0, p1, p2⟩ := HCB.out w3 HKC.out; obtain ⟨r0, r1, r2⟩ := HCA.out w3 HKC.out; clear hk3 hb3; cases b3)
        | (((with_reducible refine (HFB.out _ (HK2.out.trans HKC.out (fun _ _ h => h))).mono ?_); rintro e w3' ⟨b3', rfl, hb3', hk3'⟩); clear p0 p1 p2 r0 r1 r2; have HB4 := Lib.hid hb3'; have HKD := Lib.hid (HKC.out.trans hk3' (fun _ _ h => h)); obtain ⟨p0, p1, p2⟩ := HCB.out w3' HKD.out; obtain ⟨r0, r1, r2⟩ := HCA.out w3' HKD.out; clear hk3' hb3'; cases b3')
        | (((with_reducible refine (HTS.out (HB3.out (by first | rfl | trivial)) (HB4.out (by first | rfl | trivial)) (by omega) (by omega) _ (HK2.out.trans HKD.out (fun _ _ h => h))).mono ?_); rintro e w4 ⟨GA, GB, ua, ub, ra, rb, nv, lv, L, rfl, q1, q2, q3, q4, qn, ql, q5⟩); clear p0 p1 p2 r0 r1 r2; have q1a := q1; have q2a := q2; obtain ⟨gP, cP, rfl, _⟩ := q1; obtain ⟨aL, cL, rfl⟩ := q2.form; have HPI := Lib.hid (PrI.mk (ga := ga) (gb := gb) (r := 5) ua ub ra rb q3 q4); have HQ1 := Lib.hid q1a; have HQ2 := Lib.hid q2a; have HK4 := Lib.hid (HKD.out.trans q5 (fun _ _ h => h)); have HNP := Lib.hid (fun o : Obj => heap_new w4 o); have rr := fun o => HCA.out (w4.alloc o) (HK4.out.alloc o); have pp := fun o => HCB.out (w4.alloc o) (HK4.out.alloc o); clear ua ub ra rb q1a q2a q2 q3 q4 qn ql q5)
        | (((with_reducible refine (HST.out (HB3.out (by first | rfl | trivial)) (HB4.out (by first | rfl | trivial)) (by omega) (by omega) _ ((HK2.out.trans HK4.out (fun _ _ h => h)).alloc _)).mono ?_); rintro e w5 ⟨GS, GT, ua, ub, ra, rb, nv, lv, M, rfl, q1, q2, q3, q4, qn, ql, q5⟩); clear rr pp; have q1a := q1; have q2a := q2; obtain ⟨gS, cS, rfl, _⟩ := q1; obtain ⟨aM, cM, rfl⟩ := q2.form; have HPJ := Lib.hid (PrI.mk (ga := ga) (gb := gb) (r := 4) ua ub ra rb q3 q4); have HR1 := Lib.hid q1a; have HR2 := Lib.hid q2a; have HK5 := Lib.hid ((HK4.out.alloc _).trans q5 (fun _ _ h => h)); have HXP := Lib.hid (q5.get (HNP.out _) (fun h => h)); have HKq := Lib.hid (((Keep.refl (fun _ => False) w4).alloc _).trans q5 (fun _ _ h => h)); have HNS := Lib.hid (fun o : Obj => heap_new w5 o); have rr := fun o => HCA.out (w5.alloc o) (HK5.out.alloc o); clear ua ub ra rb q1a q2a q2 q3 q4 qn ql q5))
      all_goals first
        | (go_ret; first | exact ⟨rfl, HK2.out.trans HKD.out (fun _ _ h => h)⟩ | exact ⟨rfl, HK2.out.trans HKC.out (fun _ _ h => h)⟩ | exact ⟨rfl, HK2.out.trans HKB.out (fun _ _ h => h)⟩ | exact ⟨rfl, HK2.out.trans HKA.out (fun _ _ h => h)⟩)
        | skip
      clear HTS HST HZA HZB HFA HFB HKA HKB HKC HKD
      as_aux_lemma =>
        go_wp2_with (first
          | (((with_reducible refine (HDA.out (HB3.out (by first | rfl | trivial)) (by omega) _ ((HK2.out.trans HK5.out (fun _ _ h => h)).alloc _)).mono ?_); rintro e w6 ⟨ka, GA', rfl, ra', ca, hk6⟩); clear rr; have HK6 := Lib.hid ((HK5.out.alloc _).trans hk6 (fun _ _ h => h)); have HKs := Lib.hid (((Keep.refl (fun _ => False) w5).alloc _).trans hk6 (fun _ _ h => h)); have HXS := Lib.hid (hk6.get (HNS.out _) (fun h => h)); obtain ⟨p0, p1, p2⟩ := HCB.out w6 HK6.out; have HRA := Lib.hid ra'; have HCHA := Lib.hid ca; clear ra' ca hk6)
          | (((with_reducible refine (HDB.out (HB4.out (by first | rfl | trivial)) (by omega) _ (HK2.out.trans HK6.out (fun _ _ h => h))).mono ?_); rintro e w7 ⟨kb, GB', rfl, rb', cb, hk7⟩); clear p0 p1 p2; have HK7 := Lib.hid (HK6.out.trans hk7 (fun _ _ h => h)); have HKs7 := Lib.hid (HKs.out.trans hk7 (fun _ _ h => h)); have HKq7 := Lib.hid (HKq.out.trans (HKs.out.trans hk7 (fun _ _ h => h)) (fun _ _ h => h)); have HXS7 := Lib.hid (hk7.get HXS.out (fun h => h)); obtain ⟨x0, x1, x2, _⟩ := three ((HKs.out.trans hk7 (fun _ _ h => h)).get HXP.out (fun h => h)); have HRB := Lib.hid rb'; have HCHB := Lib.hid cb; clear rb' cb hk7)
          | (((with_reducible refine (asGraph_spec (HQ1.out.keepF HKq7.out) (HQ2.out.keep HKq7.out (fun _ _ h => h)) (by have := HPI.out.len (HB3.out (by first | rfl | trivial)) (HB4.out (by first | rfl | trivial)); omega) (by have := HPI.out.few (HB3.out (by first | rfl | trivial)) (HB4.out (by first | rfl | trivial)); omega) HPI.out.mem').mono ?_); rintro e w8 ⟨gv, rfl, hg8, hk8⟩); have HG8 := Lib.hid hg8; have HK8 := Lib.hid (HK7.out.trans hk8 (fun _ _ h => h)); have HK78 := Lib.hid hk8; clear hg8 hk8 x0 x1 x2)
          | (((with_reducible refine (chP HPI.out (HB3.out (by first | rfl | trivial)) (HB4.out (by first | rfl | trivial)) (by rw [HN.out]; omega) (by rw [HN'.out]; omega) HG8.out).mono ?_); rintro e w9 ⟨y, GP, rfl, rp', cp, hk9⟩); have HK9 := Lib.hid (HK8.out.trans hk9 (fun _ _ h => h)); have HKs9 := Lib.hid (HKs7.out.trans (HK78.out.trans hk9 (fun _ _ h => h)) (fun _ _ h => h)); obtain ⟨x0, x1, x2, _⟩ := three ((HK78.out.trans hk9 (fun _ _ h => h)).get HXS7.out (fun h => h)); have HRP := Lib.hid rp'; have HCP := Lib.hid cp; clear rp' cp hk9)
          | (((with_reducible refine (asGraph_spec (HR1.out.keepF HKs9.out) (HR2.out.keep HKs9.out (fun _ _ h => h)) (by have := HPJ.out.len (HB3.out (by first | rfl | trivial)) (HB4.out (by first | rfl | trivial)); omega) (by have := HPJ.out.few (HB3.out (by first | rfl | trivial)) (HB4.out (by first | rfl | trivial)); omega) HPJ.out.mem').mono ?_); rintro e w10 ⟨gv2, rfl, hg10, hk10⟩); have HG10 := Lib.hid hg10; have HK10 := Lib.hid (HK9.out.trans hk10 (fun _ _ h => h)); clear hg10 hk10 x0 x1 x2)
          | (((with_reducible refine (chP HPJ.out (HB3.out (by first | rfl | trivial)) (HB4.out (by first | rfl | trivial)) (by rw [HN.out]; omega) (by rw [HN'.out]; omega) HG10.out).mono ?_); rintro e w11 ⟨z, GQ, rfl, rq', cq, hk11⟩); obtain ⟨f1, f2, f3, f4, f5, f6, f7⟩ := last_facts HPI.out HPJ.out (HB3.out (by first | rfl | trivial)) (HB4.out (by first | rfl | trivial)) (by rw [HN.out]; omega) (by rw [HN'.out]; omega) HRA.out HRB.out HCHA.out HCHB.out HRP.out HCP.out rq' cq; have f8 := mul_fact f5 f6 f7; clear f5; have HK11 := Lib.hid (HK10.out.trans hk11 (fun _ _ h => h)); clear rq' cq hk11)
          | (((with_reducible refine (pale_spec _).mono ?_); rintro e w12 ⟨rfl, hk12⟩); have HK12 := Lib.hid (HK11.out.trans hk12 (fun _ _ h => h)); clear hk12))
        go_ret
        exact ⟨rfl, HK2.out.trans HK12.out (fun _ _ h => h)⟩
end Go.Proofs.YtdaccgelmcmfjaaGreatDoor
