/- impl.multiply: the product of two good undirected graphs, in order. -/
import Derived.Test.YtdaccgelmcmfjaaGreatDoorJR3
set_option linter.all false
namespace Go.Proofs.YtdaccgelmcmfjaaGreatDoor
open Go.RowKit Go.V Go.Sort Go.Lib
set_option maxHeartbeats 16000000 in
set_option maxRecDepth 100000 in
theorem multiply_spec {f : FuncId} {k : Nat} (heg : ∀ args w, (callFunc f args).run Tryz.prog w = .ok (.enter f args) w) (hby : Lays f k) {B : Nat} {w : World} {ga gb : IG} {gav gbv : Value} (hga : GraphAt B w gav ga) (hgb : GraphAt B w gbv gb) (hB : B ≤ w.heap.size) (gda : GoodU ga) (gdb : GoodU gb)
    (a0 : 0 < ga.nodes.length) (b0 : 0 < gb.nodes.length) (a8 : ga.nodes.length ≤ 8) (b8 : gb.nodes.length ≤ 8) :
    Calls Tryz.prog 12 #[gav, gbv, .func (.func f) #[] #[]] w fun e w' => ∃ GA GB, UG GA ∧ UG GB ∧ Reads ga GA ∧ Reads gb GB ∧ MulPost w GA GB k e w' := by
  have hoa := fun W (hk : Keep (fun _ => False) w W) => open_good (hga.keepF hk) (Nat.le_trans hB hk.size) gda
  have hob := fun W (hk : Keep (fun _ => False) w W) => open_good (hgb.keepF hk) (Nat.le_trans hB hk.size) gdb
  have hda := gda.dir
  have hdb := gdb.dir
  obtain ⟨na, nn, nc, ea, en, ec, rfl⟩ := graph_form hga
  obtain ⟨na', nn', nc', ea', en', ec', rfl⟩ := graph_form hgb
  rw [hda] at *
  rw [hdb] at *
  have HOA := Lib.hid hoa
  have HOB := Lib.hid hob
  have HBY := Lib.hid hby
  have HGDA := Lib.hid gda
  have HGDB := Lib.hid gdb
  clear hoa hob hby hga hgb hda hdb
  have h3 : ∀ (x y z : Obj), ((((w.alloc x).alloc y).alloc z).heap[w.heap.size]? = some x ∧ (((w.alloc x).alloc y).alloc z).heap[w.heap.size + 1]? = some y ∧ (((w.alloc x).alloc y).alloc z).heap[w.heap.size + 2]? = some z) ∧ Keep (fun _ => False) w (((w.alloc x).alloc y).alloc z) ∧ (((w.alloc x).alloc y).alloc z).heap.size = w.heap.size + 3 := fun x y z =>
    ⟨⟨(heap_old (by simp <;> omega)).trans ((heap_old (by simp)).trans (heap_new w x)), (heap_old (by simp)).trans (new_at (by simp) y), new_at (by simp) z⟩, (((Keep.refl _ w).alloc x).alloc y).alloc z, by simp⟩
  obtain ⟨⟨hx0, hx1, hx2⟩, hkx, hsx⟩ := h3 (.cells #[.bool false, .slice na nn nc, .slice ea en ec] 25 (0, 0)) (.cells #[.bool false, .slice na' nn' nc', .slice ea' en' ec'] 25 (0, 0)) (.cells #[.bool false, .slice none 0 0, .slice none 0 0] 31 (0, 0))
  have HX0 := Lib.hid hx0
  have HX1 := Lib.hid hx1
  have HX2 := Lib.hid hx2
  have HKX := Lib.hid hkx
  have HSX := Lib.hid hsx
  clear h3 hx0 hx1 hx2 hkx hsx
  go_enter Tryz.func12, Tryz.ntmps12
  go_upto_region 3 with (first
    | (((with_reducible refine (HOA.out _ HKX.out).mono ?_); rintro e w1 ⟨qa, GA, rfl, hk1, hq1, hp1, hr1⟩); rw [HSX.out] at hq1; obtain ⟨z0, z1, z2, _⟩ := three (hk1.get HX1.out (fun h => h)); have HK1 := Lib.hid hk1; have HP1 := Lib.hid hp1; have HR1 := Lib.hid hr1; clear hk1 hp1 hr1)
    | (((with_reducible refine (HOB.out _ (HKX.out.trans HK1.out (fun _ _ h => h))).mono ?_); rintro e w2 ⟨qb, GB, rfl, hk2, hq2, hp2, hr2⟩); clear z0 z1 z2; have HK2 := Lib.hid hk2; have HP2 := Lib.hid hp2; have HR2 := Lib.hid hr2; clear hk2 hp2 hr2))
  have hk02 : Keep (fun _ => False) w w2 := (HKX.out.trans HK1.out (fun _ _ h => h)).trans HK2.out (fun _ _ h => h)
  have hua := HGDA.out.ug HR1.out HP1.out.ok
  have hub := HGDB.out.ug HR2.out HP2.out.ok
  have hia : GA.ids.length = ga.nodes.length := by rw [HR1.out.ids, isort_length]
  have hib : GB.ids.length = gb.nodes.length := by rw [HR2.out.ids, isort_length]
  obtain ⟨W3, hW3⟩ : ∃ W, W = w2.alloc (.cells #[.bool false, .slice none 0 0, .slice none 0 0, .slice none 0 0] 64 (0, 0)) := ⟨_, rfl⟩
  have hk23 : Keep (fun _ => False) w2 W3 := by rw [hW3]; exact (Keep.refl _ w2).alloc _
  have hb3 : Bd0 W3 w2.heap.size := by rw [hW3]; exact heap_new w2 _
  have hcall := HBY.out w2.heap.size qa qb w2.heap.size W3 GA GB (((HP1.out.keepF HK2.out).mono HK2.out.size).keepF hk23) (HP2.out.keepF hk23) (Nat.le_refl _) hua hub (by omega) (by omega) (by omega) (by omega) hb3
  have hel : (eK GA.ids GB.ids (nbo GA) (nbo GB) k).length ≤ 10000 := eK_len (by omega) (by omega) (fun a ha => by
    obtain ⟨i, hi⟩ := List.mem_iff_getElem?.1 ha
    rw [nbo_at hua.ok hi]; exact Nat.le_trans (PG.nbr_length hua.ok hi) (by omega)) (fun b hb => by
    obtain ⟨i, hi⟩ := List.mem_iff_getElem?.1 hb
    rw [nbo_at hub.ok hi]; exact Nat.le_trans (PG.nbr_length hub.ok hi) (by omega)) k
  have hPl : (pairsOf GA.ids GB.ids).length ≤ 64 := by rw [pairsOf_length]; exact Nat.le_trans (Nat.mul_le_mul (show GA.ids.length ≤ 8 by omega) (show GB.ids.length ≤ 8 by omega)) (by decide)
  have hP0 : 0 < (pairsOf GA.ids GB.ids).length := by rw [pairsOf_length]; exact Nat.mul_pos (by omega) (by omega)
  have hc0 := HK1.out.trans HK2.out (fun _ _ h => h)
  have hr2 : PBlk w2 (w.heap.size + 1 + 1) (.slice none 0 0) (.slice none 0 0) := hc0.get HX2.out (fun h => h)
  have hr0 := hc0.get HX0.out (fun h => h)
  have hz2 : w.heap.size + 1 + 1 < w2.heap.size := by have := hc0.size; rw [HSX.out] at this; omega
  have hsx := HSX.out
  obtain ⟨z0, _, _, _⟩ := three hr0
  obtain ⟨y0, _, _, _⟩ := three (hc0.get HX1.out (fun h => h))
  rw [hW3] at hcall hb3
  have HCALL := Lib.hid hcall
  have HUA := Lib.hid hua
  have HUB := Lib.hid hub
  have HEL := Lib.hid hel
  have HR20 := Lib.hid hr2
  have HR00 := Lib.hid hr0
  have HK02 := Lib.hid hk02
  clear hk02 hua hub hia hib hW3 hk23 hb3 hcall hel hc0 hr2 hr0 HOA HOB HBY HP1 HP2 HK1 HK2 HX0 HX1 HX2 HKX HSX hsx hq1 hq2 W3
  generalize hs0 : w.heap.size = s0 at *
  go_upto_region 7 with (first
    | (((with_reducible refine (HCALL.out).mono ?_); rintro e w4 ⟨rfl, nv, ev, hbd, hk4⟩); have HBD := Lib.hid hbd; have HK4 := Lib.hid hk4; clear hbd hk4))
  have hk24 : Keep (fun b => b = w2.heap.size) w2 w4 := ((Keep.refl (fun b => b = w2.heap.size) w2).alloc _).trans HK4.out (fun _ _ h => h)
  have hr4 := HR20.out.keep hk24 (by omega)
  have ha4 := hk24.get HR00.out (show ¬ s0 = w2.heap.size by omega)
  obtain ⟨z4, _, _, _⟩ := three ha4
  have hbd4 := HBD.out
  have hks : Keep (fun b => b = s0 + 1 + 1) w4 (w4.setCell ⟨s0 + 1 + 1, 0, none⟩ (.bool false)) := (Keep.refl _ w4).setCell (a := ⟨s0 + 1 + 1, 0, none⟩) _ (fun _ => rfl)
  have hr5 := hr4.set0
  have ha5 := hks.get ha4 (show ¬ s0 = s0 + 1 + 1 by omega)
  have hge := fun g (hg : nv.ownBlock = some g) => hbd4.nodes.lt g hg
  have hge2 := fun g (hg : ev.ownBlock = some g) => hbd4.edges.lt g hg
  have hbd5 := hbd4.keep hks (by omega) (fun g hg e => by have := (hge g hg).1; omega) (fun g hg e => by have := (hge2 g hg).1; omega)
  have hk25 : Keep (fun b => b = w2.heap.size ∨ b = s0 + 1 + 1) w2 (w4.setCell ⟨s0 + 1 + 1, 0, none⟩ (.bool false)) := (hk24.mono (fun _ _ h => .inl h)).trans hks (fun _ _ h => .inr h)
  obtain ⟨_, _, p2, p3⟩ := hr4.cells
  have p3a := p3 0
  go_upto_region 8 with fail
  generalize hw5 : (w4.setCell ⟨s0 + 1 + 1, 0, none⟩ (.bool false)) = w5 at *
  clear hw5
  obtain ⟨aE, cE, hev, hcE⟩ : ∃ aE cE, ev = .slice aE (eK GA.ids GB.ids (nbo GA) (nbo GB) k).length cE ∧ ∀ j l, (eK GA.ids GB.ids (nbo GA) (nbo GB) k)[j]? = some l → ∃ g, aE = some ⟨g, 0, none⟩ ∧ w2.heap.size + 1 ≤ g ∧ w5.cell? ⟨g, j, none⟩ = some (edgeV (pairsOf GA.ids GB.ids) l) := by
    rcases hbd5.edgesAt with ⟨h1, h2⟩ | ⟨g, cap, h1, h2, h3, h4⟩
    · exact ⟨none, 0, by rw [h1, h2]; rfl, fun j l hl => by rw [h2] at hl; simp at hl⟩
    · exact ⟨_, cap, h1, fun j l hl => ⟨g, rfl, h2, h4 j l hl⟩⟩
  obtain ⟨gN, cN, hnv, hgN, hgNl, hcN⟩ := hbd5.nodesAt hP0
  have hoN : nv.ownBlock = some gN := by rw [hnv]; rfl
  have hneN := hbd5.apart hoN
  obtain ⟨_, c51, c52, _, _⟩ := hbd5.cells
  rw [hnv] at c51
  rw [hev] at c52
  have HCE := Lib.hid hcE
  have hz5 : w2.heap.size + 1 ≤ w5.heap.size := by omega
  have HBD5 := Lib.hid hbd5
  have HA5 := Lib.hid ha5
  have HCN := Lib.hid hcN
  have HP5 := Lib.hid hr5
  have HK25 := Lib.hid hk25
  have HGE2 := Lib.hid hge2
  generalize hrb : s0 + 1 + 1 = rb at *
  generalize hbb : w2.heap.size = bb at *
  have hrbb : rb < bb := hz2
  have hs0r : s0 + 1 < rb := by omega
  have HBB := Lib.hid hbb
  clear hrb hbb hz2
  clear ha4 ha5 hev hcE hnv hoN hbd4 hbd5 hr4 hr5 hks hk24 hk25 hge hge2 hcN z0 y0 z4 p2 p3 p3a HBD HK4 HCALL HR20 HR00
  generalize hPP : pairsOf GA.ids GB.ids = P at *
  generalize hEE : eK GA.ids GB.ids (nbo GA) (nbo GB) k = E at *
  have HPP := Lib.hid hPP
  have HEE := Lib.hid hEE
  have hrow : ∀ j, j < P.length → ∃ p, P[j]? = some p := fun j hj => ⟨_, List.getElem?_eq_getElem hj⟩
  generalize hN : P.length = N at *
  have HN := Lib.hid hN
  have HROW := Lib.hid hrow
  clear hPP hEE hN hrow
  go_wp2_with fail
  go_loopg [62] (N + 1) (fun gk q wr => ∃ (j : Nat) (pv : Value), q = .int .i64 (j : Int) ∧ j + gk = N + 1 ∧ j ≤ N ∧ PBlk wr rb pv (.slice none 0 0) ∧ wr.ownsRow w5.heap.size 47 2 pv j ((P.take j).flatMap pairA) ∧ Keep (fun b => b = rb) w5 wr)
  case atStart => exact ⟨0, _, rfl, by omega, Nat.zero_le _, HP5.out, World.ownsRow_nil _ _ _ _, Keep.refl _ _⟩
  case round =>
    rename World => wr
    obtain ⟨j, pv, rfl, hgk, hjN, hpb, hrow, hk⟩ := hrel
    have HGK := Lib.hid hgk
    have HPB := Lib.hid hpb
    have HRW := Lib.hid hrow
    have HK := Lib.hid hk
    clear hgk hpb hrow hk
    by_cases hlt : j < N
    · obtain ⟨p, hp⟩ := HROW.out j hlt
      have cn : wr.cell? ⟨gN, j, none⟩ = some (pnI (P.idxOf p) p) := by
        rw [HK.out.cell (a := ⟨gN, j, none⟩) hgNl (show ¬ gN = rb by omega)]; exact HCN.out j p hp
      obtain ⟨_, c1, _, f⟩ := HPB.out.cells
      have f1 := f 1
      have HPJ := Lib.hid hp
      clear hp f
      go_upto_region 11 with fail
      have hc1 := fun W (hk : Keep (fun _ => False) wr W) => (HPB.out.keep hk (fun h => h)).cells.2.1
      have HC1 := Lib.hid hc1
      clear hc1
      go_region_law (first
        | (refine step_push2 (by rfl) (by rfl) HK.out (HK6.out.alloc _) infoPair Tryz.underlying28 (by rfl) (by decide) _ j _ (by simp [Act.eval, Act.put]) HRW.out ⟨w6.heap.size, 0, none⟩ 1 1 (pairA p) (by simp [Act.eval, Act.put]) (by rfl) (World.news_of_block (heap_new _ _)) (by simp [Value.oneCell']) (by decide) (by unfold maxLen; omega) (by omega) ?_; intro g2 cap2 w7 hr7 hk7 hg7 hl7 hkk7; have hp7 := ((HPB.out.keep HK6.out (fun h => h)).keep ((Keep.refl (fun _ => False) w6).alloc _) (fun h => h)).keep hkk7 (fun e => by have := (HRW.out.lt rb e).1; omega); obtain ⟨_, c7, _, f7⟩ := hp7.cells; have f71 := f7 1; have HP7 := Lib.hid hp7; have HR7 := Lib.hid hr7; have HK7 := Lib.hid hk7; clear hp7 hr7 hk7 hkk7 f7)
        | (go_simp; go_at_call 21; refine (pairOf_spec _ _ _).mono ?_; rintro e w6 ⟨rfl, hk6⟩; have HK6 := Lib.hid (Keep.trans ((Keep.refl (fun _ => False) wr).drew) hk6 (fun _ _ h => h)); have c6 := HC1.out _ HK6.out; have c6b := fun o => HC1.out (w6.alloc o) (HK6.out.alloc o); clear hk6))
      all_goals (go_wp2_with fail)
      all_goals
        have hks : Keep (fun b => b = rb) w7 (w7.setCell ⟨rb, 1, none⟩ (.slice (some ⟨g2, 0, none⟩) (j + 1) cap2)) := (Keep.refl (fun b => b = rb) w7).setCell (a := ⟨rb, 1, none⟩) _ (fun _ => rfl)
        go_roundg (gk - 1)
        case measure => have := HGK.out; omega
        case rel =>
          refine ⟨j + 1, _, by go_num, by have := HGK.out; omega, by omega, HP7.out.set1 _, ?_, HK7.out.trans hks (fun _ _ h => h)⟩
          rw [flat_step HPJ.out]
          exact ownsRow_keep' HR7.out hks (fun g hg e => by cases hg; have e : g2 = rb := e; omega)
    · obtain rfl : N = j := by omega
      have ce : wr.cell? ⟨bb, 2, none⟩ = some (.slice aE E.length cE) := by
        rw [HK.out.cell (a := ⟨bb, 2, none⟩) (show bb < w5.heap.size by omega) (show ¬ bb = rb by omega)]; exact c52
      have hpt : wr.ownsRow w5.heap.size 47 2 pv N (P.flatMap pairA) := by
        have := HRW.out
        rwa [← HN.out, List.take_length, HN.out] at this
      have HPT := Lib.hid hpt
      have helen := HEL.out
      have hexE : ∀ j, j < E.length → ∃ l, E[j]? = some l := fun j hj => ⟨_, List.getElem?_eq_getElem hj⟩
      have HXE := Lib.hid hexE
      generalize hM : E.length = M at *
      have HM := Lib.hid hM
      have hzr := HK.out.size
      have HPBN := Lib.hid HPB.out
      have HKN := Lib.hid HK.out
      clear hM hpt hexE HRW HGK HPB HK HP5
      rename World => wn
      go_wp2_with fail
      go_loopg [79] (M + 1) (fun gk q wr => ∃ (j : Nat) (lv : Value), q = .int .i64 (j : Int) ∧ j + gk = M + 1 ∧ j ≤ M ∧ PBlk wr rb pv lv ∧ wr.ownsRow wn.heap.size 49 4 lv j (((E.take j).map ordL).flatMap linkA) ∧ Keep (fun b => b = rb) wn wr)
      case atStart => exact ⟨0, _, rfl, by omega, Nat.zero_le _, HPBN.out, World.ownsRow_nil _ _ _ _, Keep.refl _ _⟩
      case round =>
        rename World => wr
        obtain ⟨j, lv, rfl, hgk, hjM, hpb, hrow, hk⟩ := hrel
        have HGK := Lib.hid hgk
        have HPB := Lib.hid hpb
        have HRW := Lib.hid hrow
        have HK := Lib.hid hk
        clear hgk hpb hrow hk
        by_cases hlt : j < M
        · obtain ⟨l, hl⟩ := HXE.out j hlt
          obtain ⟨gE, rfl, hgE, hcl⟩ := HCE.out j l hl
          have cl : wr.cell? ⟨gE, j, none⟩ = some (.iface 345 (.agg #[pnI (P.idxOf l.1) l.1, pnI (P.idxOf l.2) l.2])) := by
            rw [(HKN.out.trans HK.out (fun _ _ h => h)).cell (a := ⟨gE, j, none⟩) (World.block_lt_of_cell? _ _ hcl) (show ¬ gE = rb by omega)]; exact hcl
          have ha := (HKN.out.trans HK.out (fun _ _ h => h)).get HA5.out (show ¬ s0 = rb by omega)
          have hla := lt_of_get ha
          have hlr := lt_of_get HPB.out
          have HAW := Lib.hid ha
          have HLJ := Lib.hid hl
          clear hl hcl ha
          obtain ⟨c, hc⟩ : ∃ c, pcmp l.1 l.2 = c := ⟨_, rfl⟩
          have HC := Lib.hid hc
          clear hc
          go_upto_region 17 with (first
            | (((with_reducible refine (edgeFrom_spec _ _ _).mono ?_); rintro e wf ⟨rfl, hkf⟩); have HKF := Lib.hid hkf; clear hkf)
            | (((with_reducible refine (edgeTo_spec _ _ _).mono ?_); rintro e wt ⟨rfl, hkt⟩); have HKT := Lib.hid (HK6.out.trans hkt (fun _ _ h => h)); clear hkt)
            | (((with_reducible refine (pairOf_spec (P.idxOf l.1) l.1 wf).mono ?_); rintro e w6 ⟨rfl, hk6⟩); have HK6 := Lib.hid (HKF.out.trans hk6 (fun _ _ h => h)); clear hk6)
            | (((with_reducible refine (pairOf_spec (P.idxOf l.2) l.2 wt).mono ?_); rintro e w8 ⟨rfl, hk8⟩); have HK8 := Lib.hid (HKT.out.trans hk8 (fun _ _ h => h)); clear hk8))
          have hs8 := HK8.out.size
          obtain ⟨⟨U1, U2⟩, V1, V2⟩ := l
          dsimp only at *
          have hpb17 := fun W => pairBefore_spec (U1, U2) (V1, V2) W
          rw [HC.out] at hpb17
          have HPC := Lib.hid hpb17
          have hlk := heap_new w8 (.cells #[.int .i64 U1, .int .i64 U2, .int .i64 V1, .int .i64 V2] 49 (0, 0))
          have hk18 := HK8.out.alloc (.cells #[.int .i64 U1, .int .i64 U2, .int .i64 V1, .int .i64 V2] 49 (0, 0))
          generalize (w8.alloc (.cells #[.int .i64 U1, .int .i64 U2, .int .i64 V1, .int .i64 V2] 49 (0, 0))) = W8 at *
          generalize hlb : w8.heap.size = lb at *
          obtain ⟨a0', _, _, _⟩ := three (hk18.get HAW.out (fun h => h))
          obtain ⟨⟨v0, v1, v2, v3⟩, f0, f1, f2', f3⟩ := cells4 hlk
          have hlbr : rb < lb := by omega
          have HLK := Lib.hid hlk
          have HK18 := Lib.hid hk18
          clear hlb hpb17 hlk hk18 HKF HKT HK6 HK8 cl
          go_upto_if 100 with (first
            | (((with_reducible refine (HPC.out _).mono ?_); rintro e w9 ⟨rfl, os9, hw9⟩); have hk9 : Keep (fun _ => False) W8 w9 := (by rw [hw9]; exact keep_grow _ _); have HK9 := Lib.hid hk9; clear hw9 hk9))
          have hl9 := HK9.out.get HLK.out (fun h => h)
          have hk19 := HK18.out.trans HK9.out (fun _ _ h => h)
          have HL9 := Lib.hid hl9
          have HK19 := Lib.hid hk19
          clear v0 v1 v2 v3 f0 f1 f2' f3 a0' hk19
          obtain ⟨⟨v0, v1, v2, v3⟩, f0, f1, f2', f3⟩ := cells4 hl9
          clear hl9 HLK HK18 HK9 HPC
          go_cut [] from 101 to 106 (fun wx => ∃ X Y : Int × Int, ordL ((U1, U2), (V1, V2)) = (X, Y) ∧ wx.heap[lb]? = some (.cells #[.int .i64 X.1, .int .i64 X.2, .int .i64 Y.1, .int .i64 Y.2] 49 (0, 0)) ∧ Keep (fun _ => False) wr wx)
          case first =>
            by_cases hgt : 0 < c
            · have hol : ordL ((U1, U2), (V1, V2)) = ((V1, V2), (U1, U2)) := by unfold ordL; rw [if_pos]; rw [HC.out]; exact hgt
              have hfin : ((((w9.setCell ⟨lb, 0, none⟩ (.int .i64 V1)).setCell ⟨lb, 1, none⟩ (.int .i64 V2)).setCell ⟨lb, 2, none⟩ (.int .i64 U1)).setCell ⟨lb, 3, none⟩ (.int .i64 U2)).heap[lb]? = some (.cells #[.int .i64 V1, .int .i64 V2, .int .i64 U1, .int .i64 U2] 49 (0, 0)) := by
                rw [heapV_setCell (heapV_setCell (heapV_setCell (heapV_setCell HL9.out 0 _) 1 _) 2 _) 3 _]; rfl
              have hkf : Keep (fun _ => False) wr ((((w9.setCell ⟨lb, 0, none⟩ (.int .i64 V1)).setCell ⟨lb, 1, none⟩ (.int .i64 V2)).setCell ⟨lb, 2, none⟩ (.int .i64 U1)).setCell ⟨lb, 3, none⟩ (.int .i64 U2)) :=
                (((HK19.out.setCell (a := ⟨lb, 0, none⟩) _ (fun h => absurd h (Nat.not_lt.2 hs8))).setCell (a := ⟨lb, 1, none⟩) _ (fun h => absurd h (Nat.not_lt.2 hs8))).setCell (a := ⟨lb, 2, none⟩) _ (fun h => absurd h (Nat.not_lt.2 hs8))).setCell (a := ⟨lb, 3, none⟩) _ (fun h => absurd h (Nat.not_lt.2 hs8))
              have HOL := Lib.hid hol
              have HFIN := Lib.hid hfin
              have HKF := Lib.hid hkf
              clear hol hfin hkf
              go_wp2_with fail
              all_goals go_meet
              all_goals exact ⟨_, _, HOL.out, HFIN.out, HKF.out⟩
            · have hol : ordL ((U1, U2), (V1, V2)) = ((U1, U2), (V1, V2)) := by unfold ordL; rw [if_neg]; rw [HC.out]; exact hgt
              have HOL := Lib.hid hol
              clear hol
              go_wp2_with fail
              all_goals go_meet
              all_goals exact ⟨_, _, HOL.out, HL9.out, HK19.out⟩
          case rest =>
            obtain ⟨X, Y, hol, hlx, hkx⟩ := hcut
            clear v0 v1 v2 v3 f0 f1 f2' f3 HL9 HK19 HC
            obtain ⟨⟨v0, v1, v2, v3⟩, f0, f1, f2', f3⟩ := cells4 hlx
            obtain ⟨_, _, c2, _⟩ := (HPB.out.keep hkx (fun h => h)).cells
            have HOL := Lib.hid hol
            have HKX := Lib.hid hkx
            clear hol hlx hkx
            go_wp2_with (first
              | (at_builtin; refine wpList_push2 rfl rfl HK.out (HKX.out.alloc (.cells #[.int .i64 X.1, .int .i64 X.2, .int .i64 Y.1, .int .i64 Y.2] 49 (0, 0))) infoLink Tryz.underlying29 rfl (by decide) _ j _ rfl HRW.out ⟨_, 0, none⟩ 1 1 (linkA (X, Y)) rfl rfl (World.news_of_block (heap_new wc _)) (by simp [Value.oneCell']) (by decide) (by unfold maxLen; omega) (by omega) ?_; intro g2 cap2 w7 hr7 hk7 hg7 hl7 hkk7; have hp7 := ((HPB.out.keep HKX.out (fun h => h)).keep ((Keep.refl (fun _ => False) wc).alloc _) (fun h => h)).keep hkk7 (fun e => by have := (HRW.out.lt rb e).1; omega); obtain ⟨_, _, c7, f7⟩ := hp7.cells; have f72 := f7 2; have HP7 := Lib.hid hp7; have HR7 := Lib.hid hr7; have HK7 := Lib.hid hk7; clear hp7 hr7 hk7 hkk7 f7))
            have hks : Keep (fun b => b = rb) w7 (w7.setCell ⟨rb, 2, none⟩ (.slice (some ⟨g2, 0, none⟩) (j + 1) cap2)) := (Keep.refl (fun b => b = rb) w7).setCell (a := ⟨rb, 2, none⟩) _ (fun _ => rfl)
            go_roundg (gk - 1)
            case measure => have := HGK.out; omega
            case rel =>
              refine ⟨j + 1, _, by go_num, by have := HGK.out; omega, by omega, HP7.out.set2 _, ?_, HK7.out.trans hks (fun _ _ h => h)⟩
              rw [map_step HLJ.out, HOL.out, List.flatMap_append]
              have := ownsRow_keep' HR7.out hks (fun g hg e => by cases hg; have e : g2 = rb := e; omega)
              simpa using this
        · obtain rfl : M = j := by omega
          rcases owns_row HPT.out with ⟨_, h0⟩ | ⟨gP, cP, rfl, hgPb, hgPl, hcP, hfP, _, _⟩
          · omega
          have hgr : gP ≠ rb := by omega
          have hpw : P.Pairwise plt := by rw [← HPP.out]; exact pairsOf_sorted _ _ HUA.out.ok.asc HUB.out.ok.asc
          have hsp := sortPairs_spec (cap := cP) (hcP.keep HK.out hgr) (fun i => by rw [HK.out.frozen (a := ⟨gP, i, none⟩) hgPl hgr]; exact hfP i) (Nat.lt_of_lt_of_le hgPl HK.out.size) HN.out (by omega) hpw
          have hrw : wr.ownsRow wn.heap.size 49 4 lv M ((E.map ordL).flatMap linkA) := by
            have := HRW.out
            rwa [← HM.out, List.take_length, HM.out] at this
          have hlvg : ∀ g, lv.ownBlock = some g → wn.heap.size ≤ g := fun g hg => (hrw.lt g hg).1
          obtain ⟨_, cp1, cp2, _⟩ := HPB.out.cells
          have HSP := Lib.hid hsp
          have HRL := Lib.hid hrw
          have HLVG := Lib.hid hlvg
          clear hpw hsp hrw hlvg hcP hfP HRW HGK
          go_upto_region 22 with (first
            | (((with_reducible refine (HSP.out).mono ?_); rintro e wp ⟨rfl, hcp, hkp⟩); have hpp := HPB.out.keep hkp (fun e => hgr e.symm); obtain ⟨_, _, d2, _⟩ := hpp.cells; have hsl := sortLinksV (ownsRow_keep' HRL.out hkp (fun g hg e => by have := HLVG.out g hg; have e : g = gP := e; omega)) (by rw [List.length_map]; exact HM.out) (by omega); have HPPB := Lib.hid hpp; have HCP := Lib.hid hcp; have HKP := Lib.hid hkp; have HSL := Lib.hid hsl; clear hpp hcp hkp hsl))
          clear cp1 cp2
          have hlr : ∀ g, lv.ownBlock = some g → g ≠ rb ∧ g ≠ gP := fun g hg => by have := HLVG.out g hg; omega
          have HLR := Lib.hid hlr
          clear hlr
          go_upto_region 23 with (first
            | (((with_reducible refine (HSL.out).mono ?_); rintro e wl ⟨l', rfl, r1, r2, r3, r4, hkl⟩); have hpp := HPPB.out.keep hkl (fun e => (HLR.out _ e).1 rfl); obtain ⟨_, _, d3, _⟩ := hpp.cells; have hcl := compactV r1 r4 r3; have HPL := Lib.hid hpp; have HR2' := Lib.hid r2; have HKL := Lib.hid hkl; have HCL := Lib.hid hcl; clear hpp r1 r2 r3 r4 hkl hcl))
          clear d2
          go_upto_region 24 with (first
            | (((with_reducible refine (HCL.out).mono ?_); rintro e wc ⟨cv, L, rfl, s1, s2, s3, s4, hkc⟩); obtain ⟨aC, cC, rfl⟩ := s1.form; have hpp := HPL.out.keep hkc (fun e => (HLR.out _ e).1 rfl); obtain ⟨_, _, d4, fz⟩ := hpp.cells; have fz2 := fz 2; have HPC := Lib.hid hpp; have HS1 := Lib.hid s1; have HS2 := Lib.hid s2; have HS3 := Lib.hid s3; have HS4 := Lib.hid s4; have HKC := Lib.hid hkc; clear hpp s1 s2 s3 s4 hkc fz))
          have hpf := HPC.out.set2 (.slice aC L.length cC)
          have hkf : Keep (fun b => b = rb) wc (wc.setCell ⟨rb, 2, none⟩ (.slice aC L.length cC)) := (Keep.refl (fun b => b = rb) wc).setCell (a := ⟨rb, 2, none⟩) _ (fun _ => rfl)
          obtain ⟨e0, e1, e2, ez⟩ := hpf.cells
          have ez0 := ez 0
          have ez1 := ez 1
          have ez2 := ez 2
          generalize (wc.setCell ⟨rb, 2, none⟩ (.slice aC L.length cC)) = wz at *
          have HPF := Lib.hid hpf
          have HKF := Lib.hid hkf
          clear hpf hkf ez d3 d4 fz2
          have hpw := ((HPF.out.set0).set1 (.slice (some ⟨gP, 0, none⟩) N cP)).set2 (.slice aC L.length cC)
          have hkw : Keep (fun b => b = rb) wz (((wz.setCell ⟨rb, 0, none⟩ (.bool false)).setCell ⟨rb, 1, none⟩ (.slice (some ⟨gP, 0, none⟩) N cP)).setCell ⟨rb, 2, none⟩ (.slice aC L.length cC)) :=
            (((Keep.refl (fun b => b = rb) wz).setCell (a := ⟨rb, 0, none⟩) _ (fun _ => rfl)).setCell (a := ⟨rb, 1, none⟩) _ (fun _ => rfl)).setCell (a := ⟨rb, 2, none⟩) _ (fun _ => rfl)
          have HPW := Lib.hid hpw
          have HKW := Lib.hid hkw
          clear hpw hkw
          go_wp2_with fail
          generalize (((wz.setCell ⟨rb, 0, none⟩ (.bool false)).setCell ⟨rb, 1, none⟩ (.slice (some ⟨gP, 0, none⟩) N cP)).setCell ⟨rb, 2, none⟩ (.slice aC L.length cC)) = wf at *
          obtain ⟨y0, y1, y2, _⟩ := HPW.out.cells
          have hcv : ∀ g, (Value.slice aC L.length cC).ownBlock = some g → g ≠ rb := fun g hg => (HLR.out g (by rw [← HS4.out]; exact hg)).1
          have hkk : Keep (fun b => b = rb) wc wf := HKF.out.trans HKW.out (fun _ _ h => h)
          have hcpf := ((HCP.out.keep HKL.out (fun e => (HLR.out _ e).2 rfl)).keep HKC.out (fun e => (HLR.out _ e).2 rfl)).keep hkk (fun e => hgr e)
          have hlvf := HS1.out.keep hkk (fun g hg e => hcv g hg e)
          have hzn := HKN.out.size
          have hgpf : gP < wf.heap.size := by
            have a1 := HK.out.size; have a2 := HKP.out.size; have a3 := HKL.out.size; have a4 := HKC.out.size; have a5 := hkk.size
            omega
          have hkfin : Keep (fun _ => False) w wf := by
            have q0 := HK02.out
            have q1 : Keep (fun _ => False) w w5 := q0.trans HK25.out (fun b hb h => by omega)
            have q2 : Keep (fun _ => False) w wn := q1.trans HKN.out (fun b hb h => by omega)
            have q3 : Keep (fun _ => False) w wr := q2.trans HK.out (fun b hb h => by omega)
            have q4 : Keep (fun _ => False) w wp := q3.trans HKP.out (fun b hb h => by omega)
            have q5 : Keep (fun _ => False) w wl := q4.trans HKL.out (fun b hb h => by have := HLVG.out b h; omega)
            have q6 : Keep (fun _ => False) w wc := q5.trans HKC.out (fun b hb h => by have := HLVG.out b h; omega)
            exact q6.trans hkk (fun b hb h => by omega)
          have hmem : ∀ U V, (U, V) ∈ L ↔ U ∈ P ∧ V ∈ P ∧ plt U V ∧ RelK k GA.adj GB.adj U V := fun U V => by
            obtain ⟨hoA, hsA, hiA⟩ := HUA.out
            obtain ⟨hoB, hsB, hiB⟩ := HUB.out
            rw [HS3.out, HR2'.out, ← HEE.out, ← HPP.out]
            exact mem_ordL (fun U V => mem_eK (fun a ha u => nbo_mem hoA ha u) (fun b hb v => nbo_mem hoB hb v) (fun a u h => by
              obtain ⟨i, j, l, h1, h2, _⟩ := h; exact ⟨List.mem_of_getElem? h1, List.mem_of_getElem? h2⟩) (fun a u h => by
              obtain ⟨i, j, l, h1, h2, _⟩ := h; exact ⟨List.mem_of_getElem? h1, List.mem_of_getElem? h2⟩) k U V) (fun U V h => RelK.symm hsA hsB h) (fun U => RelK.irrefl hiA hiB U) U V
          have HCPF := Lib.hid hcpf
          have HLVF := Lib.hid hlvf
          have HKFIN := Lib.hid hkfin
          have HMEM := Lib.hid hmem
          clear hcv hkk hcpf hlvf hkfin hmem
          (try simp only [Exit.inBlock, Exit.then])
          refine bodyPost_ret (by simp [results, Tryz.results12, go_sem, y0, y1, y2]; try rfl) rfl ?_
          refine ⟨GA, GB, HUA.out, HUB.out, HR1.out, HR2.out, _, _, L, rfl, ?_, HLVF.out, HS2.out, ?_, fun g hg => (by have e : gP = g := Option.some.inj hg; have a0 := HK25.out.size; omega), fun g hg => (by have := HLVG.out g (by rw [← HS4.out]; exact hg); have a0 := HK25.out.size; have a1 := HKN.out.size; omega), HKFIN.out⟩
          · exact ⟨gP, cP, by rw [HPP.out, HN.out], by rw [HPP.out]; exact HCPF.out, hgpf⟩
          · rw [HPP.out]; exact HMEM.out
end Go.Proofs.YtdaccgelmcmfjaaGreatDoor
