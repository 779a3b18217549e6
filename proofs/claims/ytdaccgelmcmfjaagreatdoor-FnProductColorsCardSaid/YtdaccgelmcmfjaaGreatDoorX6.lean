/- coloring.RecursiveLargestFirst on two nodes that are joined: two colours. -/
import Derived.Test.YtdaccgelmcmfjaaGreatDoorJX5
set_option linter.all false
namespace Go.Proofs.YtdaccgelmcmfjaaGreatDoor
open Go.RowKit Go.V
set_option maxHeartbeats 8000000 in
set_option maxRecDepth 100000 in
theorem rlf_spec {B pb : Nat} {w : World} {G : PG} {u0 u1 : Int} (hG : Plain B w pb G) (hB : B ≤ w.heap.size) (hids : G.ids = [u0, u1]) (hne : u0 ≠ u1) (hn0 : G.nbr 0 = [u1]) (hn1 : G.nbr 1 = [u0]) :
    Calls Tryz.prog 61 #[gV pb] w fun e w' => ∃ (cb : Nat) (C : PC), e = .returned (.tuple #[.int .i64 2, .map (some cb)]) ∧ ColAt w' cb C ∧ (C.length = 2 ∧ ∃ a b : Nat, cget C u0 = some a ∧ cget C u1 = some b ∧ a ≠ b) ∧ Keep (fun _ => False) w w' := by
  have hk0 : Keep (fun _ => False) w (w.alloc (.cells #[gV pb] 126 (0, 0))) := (Keep.refl _ w).alloc _
  have hN := uNodes_spec (hG.keepF hk0)
  rw [hids] at hN
  have hmm := @run_makeMap Tryz.prog
  have hmi : ∀ W, (Instr.makeSlice 22 (.int .i64 2) (.int .i64 2)).run Tryz.prog W = .ok (.slice (some ⟨W.heap.size, 0, none⟩) 2 2) (W.alloc (.cells #[.int .i64 0, .int .i64 0] 3 (0, 0))) := mkTwoX
  have hbg : ∀ W, Keep (fun _ => False) (w.alloc (.cells #[gV pb] 126 (0, 0))) W → W.cell? ⟨w.heap.size, 0, none⟩ = some (gV pb) := fun W hk => by
    rw [cell_of (hk.get (heap_new w _) (fun h => h))]; rfl
  have HN := Lib.hid hN
  have HBG := Lib.hid hbg
  have HK0 := Lib.hid hk0
  clear hN hbg hk0
  have c0 := HBG.out _ (Keep.refl _ _)
  go_enter Tryz.func61, Tryz.ntmps61
  go_upto_region 4 with (first
    | (((with_reducible refine (HN.out).mono ?_); rintro e w1 ⟨it, g1, rfl, hi1, hl1, hg1, hk1⟩); have HI1 := Lib.hid hi1; have HK1 := Lib.hid hk1; clear hi1 hk1)
    | (((with_reducible refine (Len_spec HI1.out (Nat.zero_le _)).mono ?_); rintro e w2 ⟨rfl, q, rfl⟩)))
  have hk2 := (HK0.out.trans HK1.out (fun _ _ h => h)).drewN q
  have hi2 := HI1.out.keep ((Keep.refl (fun _ => False) w1).drewN q) (fun h => h) (fun h => h)
  have hsz0 : (w.alloc (.cells #[gV pb] 126 (0, 0))).heap.size = w.heap.size + 1 := by simp
  have hgit : g1 ≠ it := by obtain ⟨_, _, _, _, h, _⟩ := hi2; exact h
  have hno := (NodesOf_spec hi2).mono (R' := fun e w' => ∃ off cap, e = .returned (.slice (some ⟨g1, off, none⟩) 2 cap) ∧ Cells w' g1 off ([u0, u1].map nodeV) ∧ Keep (fun b => b = it) (w1.drewN q) w' ∧ w'.heap.size = (w1.drewN q).heap.size) (by
    rintro e w' ⟨v, rfl, hrow, hk1, hs1⟩
    rcases hrow with ⟨_, h0⟩ | ⟨off, cap, rfl, hcells, hle, hmx, hfree⟩
    · cases h0
    · exact ⟨off, cap, rfl, hcells, hk1, hs1⟩)
  have hbg2 : (w1.drewN q).heap[w.heap.size]? = some (.cells #[gV pb] 126 (0, 0)) := (HK1.out.drewN q).get (heap_new w _) (fun h => h)
  have hgl := hi2.lt'
  have HNO := Lib.hid hno
  have HK2 := Lib.hid hk2
  have HBG2 := Lib.hid hbg2
  clear hno hk2 hi2 hbg2 HI1 HN HBG c0
  have HK1s : w.heap.size + 1 ≤ (w1.drewN q).heap.size := by have := HK1.out.size; simp at this; simpa using this
  generalize w1.drewN q = w2 at *
  go_upto_region 8 with (first
    | (((with_reducible refine (HNO.out).mono ?_); rintro e w3 ⟨off, cap, rfl, hc3, hk3, hs3⟩); have HC3 := Lib.hid hc3; have HK3 := Lib.hid hk3; clear hc3 hk3))
  obtain ⟨b0, b1, b2, b3, b4, hk8, hs8⟩ := lay5_at hs3 (.cells #[.slice (some ⟨g1, off, none⟩) 2 cap] 61 (0, 0)) (.map #[] 0) (.cells #[.int .i64 0, .int .i64 0] 3 (0, 0)) (.map #[] 0) (.cells #[.map (some (w2.heap.size + 1 + 1 + 1))] 83 (0, 0))
  unfold lay5 at b0 b1 b2 b3 b4 hk8 hs8
  generalize (((((w3.alloc (.cells #[.slice (some ⟨g1, off, none⟩) 2 cap] 61 (0, 0))).alloc (.map #[] 0)).alloc (.cells #[.int .i64 0, .int .i64 0] 3 (0, 0))).alloc (.map #[] 0)).alloc (.cells #[.map (some (w2.heap.size + 1 + 1 + 1))] 83 (0, 0))) = w8 at *
  have hkw3 : Keep (fun _ => False) w w3 := HK2.out.trans HK3.out (fun b hb h => by omega)
  have hri : Ri w8 B w.heap.size pb w2.heap.size g1 off cap (w2.heap.size + 1 + 1 + 1 + 1) (w2.heap.size + 1 + 1 + 1) (w2.heap.size + 1 + 1) (w2.heap.size + 1) G u0 u1 0 :=
    ⟨hk8.get (HK3.out.get HBG2.out (by omega)) (fun h => h), b0, by have := (HC3.out.keep hk8 (fun h => h)) 0 (nodeV u0) rfl; simpa using this, (HC3.out.keep hk8 (fun h => h)) 1 (nodeV u1) rfl, b4, ⟨[], ⟨#[], 0, b3, Rep.nil⟩, fun h => absurd h (by decide), fun h => absurd h (by decide)⟩, hG.keepF (hkw3.trans hk8 (fun _ _ h => h)), ⟨0, 0, b2, fun h => absurd h (by decide), fun h => absurd h (by decide)⟩, ⟨#[], 0, b1, Rep.nil⟩⟩
  have HRI := Lib.hid hri
  have HKW8 := Lib.hid (hkw3.trans hk8 (fun _ _ h => h))
  clear b0 b1 b2 b3 b4 hri hkw3 HC3 HK3 HBG2 HNO
  have hw2s : w.heap.size + 1 ≤ w2.heap.size := by have := HK1s; omega
  generalize w2.heap.size = s at *
  have hws := HKW8.out.size
  have hcc : ∀ W k, Ri W B w.heap.size pb s g1 off cap (s + 1 + 1 + 1 + 1) (s + 1 + 1 + 1) (s + 1 + 1) (s + 1) G u0 u1 k → W.cell? ⟨w.heap.size, 0, none⟩ = some (gV pb) ∧ W.cell? ⟨s, 0, none⟩ = some (.slice (some ⟨g1, off, none⟩) 2 cap) ∧ W.cell? ⟨s + 1 + 1 + 1 + 1, 0, none⟩ = some (.map (some (s + 1 + 1 + 1))) := fun W k h => by
    refine ⟨?_, ?_, ?_⟩
    · rw [cell_of h.g]; rfl
    · rw [cell_of h.n]; rfl
    · rw [cell_of h.i]; rfl
  have HCC := Lib.hid hcc
  obtain ⟨c0, c1, c2⟩ := hcc _ _ HRI.out
  clear hcc
  go_wp2_with fail
  clear c0 c1 c2
  go_loopw [38] (fun q wr => ∃ k : Nat, q = .int .i64 (k : Int) ∧ k ≤ 2 ∧ Ri wr B w.heap.size pb s g1 off cap (s + 1 + 1 + 1 + 1) (s + 1 + 1 + 1) (s + 1 + 1) (s + 1) G u0 u1 k ∧ Keep (fun b => s ≤ b) w8 wr) (fun q _ => 2 - (intOf q).toNat)
  case atStart => exact ⟨0, rfl, by omega, HRI.out, Keep.refl _ _⟩
  case round =>
    obtain ⟨k, rfl, hk2, hri, hk⟩ := hrel
    clear HRI
    obtain ⟨c0, c1, c2⟩ := HCC.out _ _ hri
    by_cases hlt : k < 2
    · obtain ⟨u, hu, hnl, cn, ⟨z0, cz⟩, fz, hix, hvec⟩ := ri_case hri hlt hids hne hn0 hn1
      have hfr := fun W (hkw : Keep (fun b => s ≤ b) w8 W) => From_any (hG.keep (HKW8.out.trans hkw (fun b hb h => by omega)) (fun _ hb => hb.elim)) hu W (Keep.refl _ _)
      have HIX := Lib.hid hix
      have HVEC := Lib.hid hvec
      have HRI := Lib.hid hri
      have HK := Lib.hid hk
      have HFR := Lib.hid hfr
      have HNL := Lib.hid hnl
      obtain ⟨IX, hcx, hc0, hc1⟩ := hri.ix
      have HIXA := Lib.hid hcx
      have HC01 := Lib.hid (And.intro hc0 hc1)
      have hcell : ∀ W, Keep (fun b => b = s + 1 + 1 + 1) wr W → W.cell? ⟨w.heap.size, 0, none⟩ = some (gV pb) ∧ (∃ z, W.cell? ⟨s + 1 + 1, k, none⟩ = some (.int .i64 z)) ∧ W.frozen? ⟨s + 1 + 1, k, none⟩ = false := fun W hkw => by
        refine ⟨by rw [cell_of (hkw.get hri.g (by omega))]; rfl, ⟨z0, by rw [hkw.cell (a := ⟨s + 1 + 1, k, none⟩) (World.block_lt_of_cell? _ _ cz) (show ¬ s + 1 + 1 = s + 1 + 1 + 1 by omega)]; exact cz⟩, by rw [hkw.frozen (a := ⟨s + 1 + 1, k, none⟩) (World.block_lt_of_cell? _ _ cz) (show ¬ s + 1 + 1 = s + 1 + 1 + 1 by omega)]; exact fz⟩
      have HCELL := Lib.hid hcell
      have HV0 := Lib.hid hri.v
      clear hix hvec hri hk hfr hnl hcx hc0 hc1 hu hcell cz fz
      go_wp2_with (first
        | (((with_reducible refine (ID_at _ _).mono ?_); rintro e w3 ⟨rfl, rfl⟩))
        | (at_mapUpdate; refine wpList_update_kv rfl _ _ _ _ rfl 2 3 Tryz.underlying83 Tryz.underlying2 (s + 1 + 1 + 1) _ u (.int .i64 (k : Int)) rfl rfl rfl HIXA.out ?_; intro w10 h1 h2 h3; rw [kput_ckv] at h1; have HX10 := Lib.hid h1; have HK10 := Lib.hid h2; obtain ⟨e0, _, _⟩ := HCELL.out _ h2; clear h1 h2 h3)
        | (((with_reducible refine (HFR.out _ (HK.out.trans HK10.out (fun b _ h => by omega))).mono ?_); rintro e w11 ⟨it2, g2, rfl, hi2, l1, l2, hk11⟩); have HI11 := Lib.hid hi2; have HK11 := Lib.hid (HK10.out.trans hk11 (fun _ _ h => h.elim)); have HK1011 := Lib.hid hk11; clear hi2 l1 l2 hk11)
        | (((with_reducible refine (Len_spec HI11.out (Nat.zero_le _)).mono ?_); rintro e w12 ⟨rfl, q2, rfl⟩); rw [List.length_map, HNL.out]; obtain ⟨_, ⟨z2, cz2⟩, fz2⟩ := HCELL.out _ (HK11.out.drewN q2)))
      obtain ⟨x0, y0, hv0, hx0, hy0⟩ := HV0.out
      have hk12 : Keep (fun b => b = s + 1 + 1 + 1) wr (w11.drewN q2) := HK11.out.drewN q2
      obtain ⟨x1, y1, hv1, hx1, hy1⟩ := HVEC.out (w11.drewN q2) x0 y0 (hv0.keep hk12 (by omega)) hx0
      have hk13 : Keep (fun b => b = s + 1 + 1 + 1 ∨ b = s + 1 + 1) wr ((w11.drewN q2).setCell ⟨s + 1 + 1, k, none⟩ (.int .i64 1)) := (hk12.mono (fun b _ h => .inl h)).setCell (a := ⟨s + 1 + 1, k, none⟩) _ (fun _ => .inr rfl)
      have hk14 : Keep (fun b => b = s + 1 + 1) w10 ((w11.drewN q2).setCell ⟨s + 1 + 1, k, none⟩ (.int .i64 1)) := ((HK1011.out.drewN q2).mono (fun b _ h => h.elim)).setCell (a := ⟨s + 1 + 1, k, none⟩) _ (fun _ => rfl)
      have hri' : Ri ((w11.drewN q2).setCell ⟨s + 1 + 1, k, none⟩ (.int .i64 1)) B w.heap.size pb s g1 off cap (s + 1 + 1 + 1 + 1) (s + 1 + 1 + 1) (s + 1 + 1) (s + 1) G u0 u1 (k + 1) :=
        HRI.out.step hk13 (by omega) (by omega) (by omega) (by omega) (by omega) (by omega) (HX10.out.keep hk14 (by omega)) (HIX.out IX HC01.out) hv1 hx1 hy1
      have HRI' := Lib.hid hri'
      have HKR := Lib.hid (HK.out.trans hk13 (fun b _ h => by omega))
      clear hk12 hk13 hk14 hri' hv0 hv1 cz2 fz2
      all_goals go_roundw
      all_goals first
        | (simp [intOf]; omega)
        | exact ⟨k + 1, by go_num, by omega, HRI'.out, HKR.out⟩
    · obtain rfl : k = 2 := by omega
      have h2 : ((2 : Nat) : Int) = 2 := rfl
      rw [h2]
      clear h2
      have hro : RO wr B w.heap.size pb s g1 off cap (s + 1 + 1 + 1 + 1) (s + 1 + 1 + 1) G u0 u1 := hri.ro
      have hvb : Vec wr (s + 1 + 1) 1 1 := hri.vec
      have hcc : ColAt wr (s + 1) (clr u0 u1 0) := hri.c
      have hsz9 : s + 5 ≤ wr.heap.size := by have := hk.size; omega
      have HK9 := Lib.hid hk
      have HRO := Lib.hid hro
      have HVB := Lib.hid hvb
      have HCC0 := Lib.hid hcc
      clear hri HCC hro hvb hcc hk
      go_wp2_with fail
      generalize hba : wr.heap.size = ba at *
      have hka := (Keep.refl (fun _ => False) wr).alloc (.cells #[.int .i64 0, .int .i64 0] 3 (0, 0))
      have hrs : RLS (wr.alloc (.cells #[.int .i64 0, .int .i64 0] 3 (0, 0))) B w.heap.size pb s g1 off cap (s + 1 + 1 + 1 + 1) (s + 1 + 1 + 1) (s + 1 + 1) (s + 1) ba G u0 u1 0 :=
        ⟨HRO.out.keepF hka, ⟨0, 0, new_at' hba _⟩, HVB.out.keep hka (fun h => h), HCC0.out.keepF hka⟩
      have HRS := Lib.hid hrs
      have HK10 := Lib.hid (HK9.out.trans hka (fun _ _ h => h.elim))
      clear hrs hka HRO HVB HCC0 HK9 c0 c1 c2
      generalize wr.alloc (.cells #[.int .i64 0, .int .i64 0] 3 (0, 0)) = w10 at *
      go_loopw [2, 14, 15] (fun q2 q14 q15 wx => ∃ j : Nat, q2 = .int .i64 (j : Int) ∧ q14 = .int .i64 ((j / 2 : Nat) : Int) ∧ q15 = .int .i64 (j : Int) ∧ j ≤ 2 ∧ RLS wx B w.heap.size pb s g1 off cap (s + 1 + 1 + 1 + 1) (s + 1 + 1 + 1) (s + 1 + 1) (s + 1) ba G u0 u1 j ∧ Keep (fun b => s ≤ b) w8 wx) (fun _ _ q15 _ => 2 - (intOf q15).toNat)
      case atStart => exact ⟨0, rfl, rfl, rfl, by omega, HRS.out, HK10.out⟩
      case round =>
        obtain ⟨j, rfl, rfl, rfl, hj2, hrs, hk⟩ := hrel
        clear HRS HK10
        have HRS := Lib.hid hrs
        have HK10 := Lib.hid hk
        clear hrs hk
        by_cases hlt : j < 2
        · obtain ⟨u, uo, hu, hnb, hput, hroc, hge⟩ := rls_case (B := B) (bg := w.heap.size) (pb := pb) (bn := s) (nb := g1) (noff := off) (nc := cap) (bi := s + 1 + 1 + 1 + 1) (ib := s + 1 + 1 + 1) (ba := ba) hlt hids hne hn0 hn1
          obtain ⟨hd1, hd2, hbx, hby⟩ := del_step hlt
          obtain ⟨a0, b0, hva⟩ := HRS.out.va
          have hvb := HRS.out.vb
          have hro : ∀ W, Keep (fun b => b = ba ∨ b = s + 1 + 1 ∨ b = s + 1) wr W → RO W B w.heap.size pb s g1 off cap (s + 1 + 1 + 1 + 1) (s + 1 + 1 + 1) G u0 u1 := fun W hk => HRS.out.ro.keep hk (by omega) (by omega) (by omega) (by omega) (by omega) (fun b hb => by omega)
          have hdel : ∀ (W : World) (v : Nat) (x y : Int), Keep (fun b => b = ba ∨ b = s + 1 + 1 ∨ b = s + 1) wr W → (v = ba ∨ v = s + 1 + 1) → Vec W v x y → (-5 ≤ x ∧ x ≤ 5) → (-5 ≤ y ∧ y ≤ 5) → ∀ k : Nat, k < 2 → Calls Tryz.prog 113 #[.slice (some ⟨v, 0, none⟩) 2 2, .int .i64 (k : Int), .pointer (some ⟨w.heap.size, 0, none⟩), .pointer (some ⟨s, 0, none⟩), .pointer (some ⟨s + 1 + 1 + 1 + 1, 0, none⟩)] W fun e w' => e = .returned (.tuple #[]) ∧ Vec w' v (del2 k x y).1 (del2 k x y).2 ∧ Keep (fun b => b = v) W w' :=
            fun W v x y hk hv hvec hx hy k hk2 => deleteFrom_spec (hro W hk) hvec (by rw [hids]; rfl) (by rw [hids]; rfl) hn0 hn1 hk2 hx hy (by omega) (by omega) (by omega) (by omega) (by omega) (by omega)
          have hfr : ∀ W, Keep (fun b => b = ba ∨ b = s + 1 + 1 ∨ b = s + 1) wr W → Calls Tryz.prog 257 #[uV pb, .int .i64 u] W fun e w' => ∃ tv, e = .returned tv ∧ FromAt W w' tv [uo] := fun W hk => by
            refine (From_any (hro W hk).p hu W (Keep.refl _ _)).mono ?_
            rintro e w' ⟨it, g, rfl, q1, q2, q3, q4⟩
            rw [hnb] at q1
            exact ⟨_, rfl, it, g, rfl, q1, q2, q3, q4⟩
          have HVA := Lib.hid hva
          have HVB := Lib.hid hvb
          have HRO := Lib.hid hro
          have HDEL := Lib.hid hdel
          have HFR := Lib.hid hfr
          have HROC := Lib.hid hroc
          have HGE := Lib.hid hge
          have HPUT := Lib.hid hput
          have HD1 := Lib.hid hd1
          have HD2 := Lib.hid hd2
          have HBX := Lib.hid hbx
          have HBY := Lib.hid hby
          have hnf := nilFrom pb
          clear hu hnb hput hroc hge hd1 hd2 hbx hby hva hvb hro hdel hfr
          obtain ⟨w20, hrun, hv20, hk20⟩ := vec_copy (ca := 2) (cb := 2) HVA.out HVB.out
          have HV20 := Lib.hid hv20
          have HK20 := Lib.hid (hk20.mono (T := fun b => b = ba ∨ b = s + 1 + 1 ∨ b = s + 1) (fun _ _ h => .inl h))
          have HB20 := Lib.hid (HVB.out.keep hk20 (show ¬ s + 1 + 1 = ba by omega))
          have HC20 := Lib.hid (HRS.out.c.keep hk20 (show ¬ s + 1 = ba by omega))
          clear hv20 hk20
          obtain ⟨c0, c1, c2⟩ := (HRO.out _ HK20.out).cells
          go_wp2_with fail
          clear c0 c1 c2
          go_loopw [14, 68] (fun q14 q68 wx => ∃ i : Nat, q68 = .int .i64 (i : Int) ∧ i ≤ 2 ∧ q14 = .int .i64 ((if i = 2 then j else 0 : Nat) : Int) ∧ Keep (fun _ => False) w20 wx) (fun _ q68 _ => 2 - (intOf q68).toNat)
          case atStart => exact ⟨0, rfl, by omega, by rcases (show j = 0 ∨ j = 1 by omega) with rfl | rfl <;> rfl, Keep.refl _ _⟩
          case round =>
            obtain ⟨i, rfl, hi2, rfl, hk⟩ := hrel
            by_cases hil : i < 2
            · obtain ⟨d0, d1, _, _⟩ := (HB20.out.keep hk (fun h => h)).cells
              have HKX := Lib.hid hk
              clear hk
              rcases (show j = 0 ∨ j = 1 by omega) with rfl | rfl <;> rcases (show i = 0 ∨ i = 1 by omega) with rfl | rfl
              all_goals
                simp only [vx, vy] at d0 d1
                go_wp2_with fail
                go_quiet (fail)
                all_goals (go_wp2_with fail)
                first
                  | exact ⟨⟨1, rfl, by decide, rfl, HKX.out.drewN _⟩, by decide⟩
                  | exact ⟨⟨2, rfl, by decide, rfl, HKX.out.drewN _⟩, by decide⟩
            · obtain rfl : i = 2 := by omega
              have hq : ((if 2 = 2 then j else 0 : Nat) : Int) = (j : Int) := rfl
              rw [hq]
              clear hq
              have HKX := Lib.hid (HK20.out.trans hk (fun _ _ h => h.elim))
              have HVX := Lib.hid (HV20.out.keep hk (fun h => h))
              have HBX0 := Lib.hid (HB20.out.keep hk (fun h => h))
              have HCX := Lib.hid (HC20.out.keep hk (fun h => h))
              obtain ⟨vv, cg, hvv⟩ := HGE.out _ HVX.out
              clear hk HV20 HB20 HVA HVB
              rename World => wy
              go_wp2_with fail
              refine wp_loop_rounds 2 ?_
              rw [rounds_succ]
              go_upto_region 30 with (first
                | (((with_reducible refine (HDEL.out _ ba _ _ HKX.out (.inl rfl) HVX.out HBX.out HBY.out j hlt).mono ?_); rintro e w30 ⟨rfl, hv30, hk30⟩); rw [HD1.out, HD2.out] at hv30; have HV30 := Lib.hid hv30; have HK30 := Lib.hid (HKX.out.trans hk30 (fun b _ h => .inl h)); have HB30 := Lib.hid (HBX0.out.keep hk30 (show ¬ s + 1 + 1 = ba by omega)); have HC30 := Lib.hid (HCX.out.keep hk30 (show ¬ s + 1 = ba by omega)); clear hv30 hk30)
                | (((with_reducible refine (HDEL.out _ (s + 1 + 1) _ _ HK30.out (.inr rfl) HB30.out HBX.out HBY.out j hlt).mono ?_); rintro e w31 ⟨rfl, hv31, hk31⟩); rw [HD1.out, HD2.out] at hv31; have HB31 := Lib.hid hv31; have HK31 := Lib.hid (HK30.out.trans hk31 (fun b _ h => .inr (.inl h))); have HV31 := Lib.hid (HV30.out.keep hk31 (show ¬ ba = s + 1 + 1 by omega)); have HC31 := Lib.hid (HC30.out.keep hk31 (show ¬ s + 1 = s + 1 + 1 by omega)); clear hv31 hk31))
              clear cg hvv
              have hr31 := HRO.out _ HK31.out
              obtain ⟨c0, c1, c2⟩ := hr31.cells
              obtain ⟨cn, _⟩ := HROC.out _ hr31
              clear hr31
              go_upto_region 32 with (first
                | (((with_reducible refine (ID_at _ _).mono ?_); rintro e w3 ⟨rfl, rfl⟩))
                | (at_mapUpdate; refine wpList_update_kv rfl _ _ _ _ rfl 2 3 Tryz.underlying83 Tryz.underlying2 (s + 1) _ u (.int .i64 (j : Int)) rfl rfl rfl HC31.out ?_; intro w32 h1 h2 h3; rw [kput_ckv, HPUT.out] at h1; have HC32 := Lib.hid h1; have HK32 := Lib.hid (HK31.out.trans h2 (fun b _ h => .inr (.inr h))); have HV32 := Lib.hid (HV31.out.keep h2 (show ¬ ba = s + 1 by omega)); have HB32 := Lib.hid (HB31.out.keep h2 (show ¬ s + 1 + 1 = s + 1 by omega)); clear h1 h2 h3))
              clear c0 c1 c2 cn HV31 HB31 HC31 HV30 HB30 HC30 HVX HBX0 HCX HC20
              have hr32 := HRO.out _ HK32.out
              obtain ⟨c0, c1, c2⟩ := hr32.cells
              obtain ⟨cn, _⟩ := HROC.out _ hr32
              clear hr32
              go_upto_region 32 with fail; go_cut [17] from 104 to 113 (fun tv wx => FromAt w32 wx tv [uo]); case first => (go_region_with (first | (((with_reducible refine (ID_spec _ _).mono ?_); rintro e w3 ⟨rfl, rfl⟩)) | (((with_reducible refine (HFR.out _ (HK32.out.drew)).mono ?_); rintro e w3 ⟨tv, rfl, hto⟩))); all_goals (go_wp2_with fail); all_goals go_meet; all_goals exact FromAt.undrew hto)
              case rest =>
                obtain ⟨it3, g3, rfl, hi, hl3, hl4, hk33⟩ := hcut
                rename World => w33
                have hs32 := HK32.out.size
                have hba32 := lt_of_get HV32.out
                have hbb32 := lt_of_get HB32.out
                have HI := Lib.hid hi
                have HK33 := Lib.hid (HK32.out.trans hk33 (fun _ _ h => h.elim))
                have HV33 := Lib.hid (HV32.out.keep hk33 (fun h => h))
                have HB33 := Lib.hid (HB32.out.keep hk33 (fun h => h))
                have HC33 := Lib.hid (ColAt.keep HC32.out hk33 (fun h => h))
                have hcl32 := ColAt.lt HC32.out
                clear c0 c1 c2 cn hi hk33
                go_wp2_with fail
                refine wp_loop_rounds 2 ?_
                rw [rounds_succ]
                go_upto_region 34 with (first
                  | (((with_reducible refine (Next_true (l := [uo]) HI.out (by simp)).mono ?_); rintro e w34 ⟨rfl, hi4, hk4, hs4⟩); have HI4 := Lib.hid hi4; have HK34 := Lib.hid (HK33.out.trans hk4 (fun b hb h => by omega)); have HV34 := Lib.hid (HV33.out.keep hk4 (show ¬ ba = it3 by omega)); have HB34 := Lib.hid (HB33.out.keep hk4 (show ¬ s + 1 + 1 = it3 by omega)); have HC34 := Lib.hid (HC33.out.keep hk4 (show ¬ s + 1 = it3 by omega)); clear hi4 hk4))
                have hr34 := HRO.out _ HK34.out
                obtain ⟨c0, c1, c2⟩ := hr34.cells
                have hlk := fun q => (HROC.out _ (HRO.out _ (HK34.out.drewN q))).2
                have HLK := Lib.hid hlk
                clear hr34 hlk
                go_cut [18] from 116 to 120 (fun v wx => v = .int .i64 ((1 - j : Nat) : Int) ∧ ∃ q, wx = w34.drewN q)
                case first =>
                  go_region_with (first
                    | (((with_reducible refine (Node_at (HI4.out.keep ((Keep.refl (fun _ => False) w34).drew) (fun h => h) (fun h => h)) (u := uo) rfl).mono ?_); rintro e w5 ⟨rfl, q, rfl⟩); have hlk := HLK.out (1 + q))
                    | (((with_reducible refine (ID_at _ _).mono ?_); rintro e w5 ⟨rfl, rfl⟩)))
                  all_goals (go_wp2_with fail)
                  all_goals go_meet
                  all_goals exact ⟨rfl, _, rfl⟩
                case rest =>
                  obtain ⟨rfl, q, rfl⟩ := hcut
                  clear c0 c1 c2
                  rcases (show j = 0 ∨ j = 1 by omega) with rfl | rfl
                  · obtain ⟨e0, e1, _, _⟩ := (show Vec w34 ba (-1) 0 from HV34.out).cells
                    have hdl1 := HDEL.out _ ba (-1) 0 (HK34.out.drewN q) (.inl rfl) (HV34.out.keep ((Keep.refl (fun _ => False) w34).drewN q) (fun h => h)) (by decide) (by decide) 1 (by decide)
                    have HDL : Hid (Calls Tryz.prog 113 #[.slice (some ⟨ba, 0, none⟩) 2 2, .int .i64 1, .pointer (some ⟨w.heap.size, 0, none⟩), .pointer (some ⟨s, 0, none⟩), .pointer (some ⟨s + 1 + 1 + 1 + 1, 0, none⟩)] (w34.drewN q) fun e w' => e = .returned (.tuple #[]) ∧ Vec w' ba (-2) (-1) ∧ Keep (fun b => b = ba) (w34.drewN q) w') := Lib.hid hdl1
                    clear hdl1
                    go_wp2_with (first
                      | (((with_reducible refine (HDL.out).mono ?_); rintro e w36 ⟨rfl, hv36, hk36⟩); have HV36 := Lib.hid hv36; have HK36 := Lib.hid hk36; clear hv36 hk36))
                    have hk46 := ((Keep.refl (fun b => b = ba) w34).drewN q).trans HK36.out (fun _ _ h => h)
                    have HK6 := Lib.hid (HK34.out.trans hk46 (fun b _ h => .inl h))
                    have HB6 := Lib.hid (HB34.out.keep hk46 (show ¬ s + 1 + 1 = ba by omega))
                    have HC6 := Lib.hid (HC34.out.keep hk46 (show ¬ s + 1 = ba by omega))
                    have HI6 := Lib.hid (Next_false (l := [uo]) (HI4.out.keep hk46 (show ¬ it3 = ba by omega) (show ¬ g3 = ba by omega)))
                    have HV6 := HV36
                    clear hk46 e0 e1
                    rw [rounds_succ]
                    go_upto_region 37 with (first
                      | (((with_reducible refine (HI6.out).mono ?_); rintro e w7 ⟨rfl, hk7, hs7⟩); have HK7 := Lib.hid (HK6.out.trans hk7 (fun b hb h => by omega)); have HV7 := Lib.hid (HV6.out.keep hk7 (show ¬ ba = it3 by omega)); have HB7 := Lib.hid (HB6.out.keep hk7 (show ¬ s + 1 + 1 = it3 by omega)); have HC7 := Lib.hid (HC6.out.keep hk7 (show ¬ s + 1 = it3 by omega)); clear hk7 hs7))
                    have hr7 := HRO.out _ HK7.out
                    obtain ⟨c0, c1, c2⟩ := hr7.cells
                    obtain ⟨e0, e1, _, _⟩ := HV7.out.cells
                    clear hr7
                    go_wp2_with fail
                    clear c0 c1 c2 e0 e1
                    go_loopw [14, 132] (fun q14 q132 wx => ∃ i : Nat, q14 = .int .i64 0 ∧ q132 = .int .i64 (i : Int) ∧ i ≤ 2 ∧ Keep (fun _ => False) w7 wx) (fun _ q132 _ => 2 - (intOf q132).toNat)
                    case atStart => exact ⟨0, rfl, rfl, by omega, Keep.refl _ _⟩
                    case round =>
                      obtain ⟨i, rfl, rfl, hi2, hk⟩ := hrel
                      obtain ⟨e0, e1, _, _⟩ := (HV7.out.keep hk (fun h => h)).cells
                      have HKX := Lib.hid hk
                      clear hk
                      by_cases hil : i < 2
                      · rcases (show i = 0 ∨ i = 1 by omega) with rfl | rfl
                        all_goals
                          go_wp2_with fail
                          first
                            | exact ⟨⟨1, rfl, rfl, by decide, HKX.out⟩, by decide⟩
                            | exact ⟨⟨2, rfl, rfl, by decide, HKX.out⟩, by decide⟩
                      · obtain rfl : i = 2 := by omega
                        go_wp2_with fail
                        rw [rounds_succ]
                        go_wp2_with fail
                        have HKE := Lib.hid ((HK10.out.trans HK7.out (fun b _ h => by omega)).trans HKX.out (fun _ _ h => h.elim))
                        have hrls : RLS wr B w.heap.size pb s g1 off cap (s + 1 + 1 + 1 + 1) (s + 1 + 1 + 1) (s + 1 + 1) (s + 1) ba G u0 u1 1 :=
                          ⟨HRO.out _ (HK7.out.trans HKX.out (fun _ _ h => h.elim)), ⟨-2, -1, HV7.out.keep HKX.out (fun h => h)⟩, HB7.out.keep HKX.out (fun h => h), HC7.out.keep HKX.out (fun h => h)⟩
                        have HRLS := Lib.hid hrls
                        clear hrls e0 e1
                        all_goals go_roundw
                        all_goals first
                          | exact ⟨1, rfl, rfl, rfl, by decide, HRLS.out, HKE.out⟩
                          | decide
                          | (simp [intOf]; done)
                          | (simp [intOf]; omega)
                  · obtain ⟨e0, e1, _, _⟩ := (show Vec w34 ba (-2) (-1) from HV34.out).cells
                    go_wp2_with fail
                    have hk46 := (Keep.refl (fun _ => False) w34).drewN q
                    have HK6 := Lib.hid (HK34.out.trans hk46 (fun b _ h => h.elim))
                    have HB6 := Lib.hid (HB34.out.keep hk46 (fun h => h))
                    have HC6 := Lib.hid (HC34.out.keep hk46 (fun h => h))
                    have HI6 := Lib.hid (Next_false (l := [uo]) (HI4.out.keep hk46 (fun h => h) (fun h => h)))
                    have HV6 : Hid (Vec (w34.drewN q) ba (-2) (-1)) := Lib.hid (HV34.out.keep hk46 (fun h => h))
                    clear hk46 e0 e1
                    rw [rounds_succ]
                    go_upto_region 37 with (first
                      | (((with_reducible refine (HI6.out).mono ?_); rintro e w7 ⟨rfl, hk7, hs7⟩); have HK7 := Lib.hid (HK6.out.trans hk7 (fun b hb h => by omega)); have HV7 := Lib.hid (HV6.out.keep hk7 (show ¬ ba = it3 by omega)); have HB7 := Lib.hid (HB6.out.keep hk7 (show ¬ s + 1 + 1 = it3 by omega)); have HC7 := Lib.hid (HC6.out.keep hk7 (show ¬ s + 1 = it3 by omega)); clear hk7 hs7))
                    have hr7 := HRO.out _ HK7.out
                    obtain ⟨c0, c1, c2⟩ := hr7.cells
                    obtain ⟨e0, e1, _, _⟩ := HV7.out.cells
                    clear hr7
                    go_wp2_with fail
                    clear c0 c1 c2 e0 e1
                    go_loopw [14, 132] (fun q14 q132 wx => ∃ i : Nat, q14 = .int .i64 1 ∧ q132 = .int .i64 (i : Int) ∧ i ≤ 2 ∧ Keep (fun _ => False) w7 wx) (fun _ q132 _ => 2 - (intOf q132).toNat)
                    case atStart => exact ⟨0, rfl, rfl, by omega, Keep.refl _ _⟩
                    case round =>
                      obtain ⟨i, rfl, rfl, hi2, hk⟩ := hrel
                      obtain ⟨e0, e1, _, _⟩ := (HV7.out.keep hk (fun h => h)).cells
                      have HKX := Lib.hid hk
                      clear hk
                      by_cases hil : i < 2
                      · rcases (show i = 0 ∨ i = 1 by omega) with rfl | rfl
                        all_goals
                          go_wp2_with fail
                          first
                            | exact ⟨⟨1, rfl, rfl, by decide, HKX.out⟩, by decide⟩
                            | exact ⟨⟨2, rfl, rfl, by decide, HKX.out⟩, by decide⟩
                      · obtain rfl : i = 2 := by omega
                        go_wp2_with fail
                        rw [rounds_succ]
                        go_wp2_with fail
                        have HKE := Lib.hid ((HK10.out.trans HK7.out (fun b _ h => by omega)).trans HKX.out (fun _ _ h => h.elim))
                        have hrls : RLS wr B w.heap.size pb s g1 off cap (s + 1 + 1 + 1 + 1) (s + 1 + 1 + 1) (s + 1 + 1) (s + 1) ba G u0 u1 2 :=
                          ⟨HRO.out _ (HK7.out.trans HKX.out (fun _ _ h => h.elim)), ⟨-2, -1, HV7.out.keep HKX.out (fun h => h)⟩, HB7.out.keep HKX.out (fun h => h), HC7.out.keep HKX.out (fun h => h)⟩
                        have HRLS := Lib.hid hrls
                        clear hrls e0 e1
                        all_goals go_roundw
                        all_goals first
                          | exact ⟨2, rfl, rfl, rfl, by decide, HRLS.out, HKE.out⟩
                          | decide
                          | (simp [intOf]; done)
                          | (simp [intOf]; omega)
        · obtain rfl : j = 2 := by omega
          go_wp2_with fail
          go_ret2
          exact ⟨s + 1, clr u0 u1 2, rfl, HRS.out.c, ⟨rfl, 0, 1, clr_get hne⟩, HKW8.out.trans HK10.out (fun b hb h => by omega)⟩
end Go.Proofs.YtdaccgelmcmfjaaGreatDoor
