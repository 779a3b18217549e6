/- topo.BronKerbosch: what it hands back are cliques, one at least. -/
import Derived.Test.YtdaccgelmcmfjaaGreatDoorDG
import Derived.Test.YtdaccgelmcmfjaaGreatDoorJM11
set_option linter.all false
section
namespace Go.Proofs.YtdaccgelmcmfjaaGreatDoor
open Go.RowKit Go.V
def BKPost (w : World) (G : PG) (e : Ending) (w' : World) : Prop :=
  ∃ (v : Value) (cs : List CE), e = .returned v ∧ w'.ownsRow w.heap.size 61 1 v cs.length (cs.map (·.v)) ∧ (∀ c ∈ cs, CRow w' c.v c.b c.l ∧ Clique G c.l ∧ w.heap.size ≤ c.b ∧ v.ownBlock ≠ some c.b) ∧ cs ≠ [] ∧ cs.length ≤ 1000000 ∧ Keep (fun _ => False) w w'
structure BL (w wr : World) (G : PG) (kb pm xm go : Nat) (ov : Value) (ord : List Int) (k : Nat) (v : Value) (cs : List CE) (Pc Xc : List Int) : Prop where
  bk : BKAt wr G kb v cs
  p : NSet wr pm Pc
  x : NSet wr xm Xc
  sub : (∀ y ∈ Pc, y ∈ G.ids) ∧ (∀ y ∈ Xc, y ∈ G.ids)
  keep : Keep (fun _ => False) w wr
  ord : NRow wr ov go (ord.map nodeV)
  new : (∀ g, v.ownBlock = some g → w.heap.size ≤ g) ∧ v.ownBlock ≠ some go ∧ ∀ c ∈ cs, w.heap.size ≤ c.b
  cnt : cs.length ≤ k * 32768
  one : (k = 0 → Xc = []) ∧ (0 < k → cs ≠ [])
theorem BL.keepN {S : Nat → Prop} {w wr w2 : World} {G : PG} {kb pm xm go : Nat} {ov : Value} {ord : List Int} {k : Nat} {v : Value} {cs : List CE} {Pc Xc : List Int} (h : BL w wr G kb pm xm go ov ord k v cs Pc Xc) (hk : Keep S wr w2) (hS : ∀ b, S b → wr.heap.size ≤ b) : BL w w2 G kb pm xm go ov ord k v cs Pc Xc :=
  have hl := h.p.lt
  have hl2 := h.x.lt
  ⟨h.bk.keepN hk hS, h.p.keep hk (fun hb => by have := hS _ hb; omega), h.x.keep hk (fun hb => by have := hS _ hb; omega), h.sub, h.keep.trans hk (fun b hb hs => by have := hS _ hs; have := h.keep.size; omega), by
    rcases h.ord with h' | ⟨off, cap, h1, h2, h3, h4, h5⟩
    · exact .inl h'
    · have := h5.1
      exact .inr ⟨off, cap, h1, h2.keep hk (fun hb => by have := hS _ hb; omega), h3, h4, h5.keep hk (fun hb => by have := hS _ hb; omega)⟩, h.new, h.cnt, h.one⟩
theorem BL.done {w w12 w13 w14 w15 : World} {G : PG} {kb pm xm go m1 m2 gs j : Nat} {ov v v' : Value} {ord : List Int} {cs cs' : List CE} {Pc Xc ks1 ks2 : List Int} {y : Int}
    (h : BL w w12 G kb pm xm go ov ord j v cs Pc Xc) (hb : BKAt w13 G kb v' (cs ++ cs')) (hk13 : Keep (fun b => b = kb ∨ v.ownBlock = some b ∨ b = m1 ∨ b = m2) w12 w13)
    (hnew : ∀ c ∈ cs', c.b = gs ∨ w12.heap.size ≤ c.b) (hmv : v'.ownBlock = v.ownBlock ∨ ∃ g, v'.ownBlock = some g ∧ w12.heap.size ≤ g) (hlen : cs'.length ≤ 2 ^ ks1.length) (hks : ks1.length ≤ 15) (hone : ks2 = [] → cs' ≠ []) (hx : ∀ z ∈ ks2, z ∈ Xc) (hy : y ∈ G.ids)
    (hw : w.heap.size ≤ gs ∧ w.heap.size ≤ kb ∧ w.heap.size ≤ pm ∧ w.heap.size ≤ xm) (h1 : xm < m1 ∧ pm < m1 ∧ go < m1 ∧ kb < m1) (h2 : xm < m2 ∧ pm < m2 ∧ go < m2 ∧ kb < m2) (hpx : pm < xm ∧ xm < kb ∧ kb < go) (hgo : go < w12.heap.size)
    (hp14 : NSet w14 pm (sdel Pc y)) (hk14 : Keep (fun b => b = pm) w13 w14) (hx15 : NSet w15 xm (sadd Xc y)) (hk15 : Keep (fun b => b = xm) w14 w15) :
    BL w w15 G kb pm xm go ov ord (j + 1) v' (cs ++ cs') (sdel Pc y) (sadd Xc y) := by
  have hsz := h.keep.size
  have hkk : Keep (fun b => b = kb ∨ v.ownBlock = some b ∨ b = m1 ∨ b = m2 ∨ b = pm ∨ b = xm) w12 w15 := ((hk13.mono (T := fun b => b = kb ∨ v.ownBlock = some b ∨ b = m1 ∨ b = m2 ∨ b = pm ∨ b = xm) (fun b _ h => by rcases h with h | h | h | h; exact .inl h; exact .inr (.inl h); exact .inr (.inr (.inl h)); exact .inr (.inr (.inr (.inl h))))).trans hk14 (fun b _ h => .inr (.inr (.inr (.inr (.inl h)))))).trans hk15 (fun b _ h => .inr (.inr (.inr (.inr (.inr h)))))
  have hnogo : ¬ (go = kb ∨ v.ownBlock = some go ∨ go = m1 ∨ go = m2 ∨ go = pm ∨ go = xm) := by
    rintro (e | e | e | e | e | e)
    · omega
    · exact h.new.2.1 e
    · omega
    · omega
    · omega
    · omega
  have hown : ∀ g, v'.ownBlock = some g → (∃ a n c, v' = .slice a n c) → True := fun _ _ _ => trivial
  have hne : ∀ m ks w0, NSet w0 m ks → ∀ c cs0, BKAt w0 G kb c cs0 → c.ownBlock ≠ some m := by
    rintro m ks w0 hm c cs0 hb0 e
    rcases hb0.own.2 with ⟨e', _⟩ | ⟨g', cap, cur, e', _, hh, _⟩
    · rw [e'] at e; cases e
    · rw [e'] at e; cases e; exact MapAt.ne_cells hm hh rfl
  have hp13 : NSet w13 pm Pc := h.p.keep hk13 (by
    rintro (e | e | e | e)
    · omega
    · exact hne pm Pc w12 h.p v cs h.bk e
    · omega
    · omega)
  have hx13 : NSet w13 xm Xc := h.x.keep hk13 (by
    rintro (e | e | e | e)
    · omega
    · exact hne xm Xc w12 h.x v cs h.bk e
    · omega
    · omega)
  have hb14 : BKAt w14 G kb v' (cs ++ cs') := hb.keep hk14 (by omega) (fun g hg e => hne pm Pc w13 hp13 v' _ hb (by rw [hg, e])) (fun c hc e => CRow.ne_map (hb.each c hc).1 hp13 e.symm)
  have hx14 : NSet w14 xm Xc := hx13.keep hk14 (by omega)
  have hb15 : BKAt w15 G kb v' (cs ++ cs') := hb14.keep hk15 (by omega) (fun g hg e => hne xm Xc w14 hx14 v' _ hb14 (by rw [hg, e])) (fun c hc e => CRow.ne_map (hb14.each c hc).1 hx14 e.symm)
  have hvo : ∀ g, v'.ownBlock = some g → v.ownBlock = some g ∨ w12.heap.size ≤ g := fun g hg => by
    rcases hmv with e | ⟨g', e, hge⟩
    · exact .inl (e ▸ hg)
    · rw [hg] at e; cases e; exact .inr hge
  refine ⟨hb15, hp14.keep hk15 (by omega), hx15, ⟨fun z hz => h.sub.1 z (mem_sdel.1 hz).1, fun z hz => ?_⟩, h.keep.trans hkk ?_, h.ord.keep hkk hnogo, ⟨fun g hg => ?_, fun e => ?_, fun c hc => ?_⟩, ?_, fun e => absurd e (Nat.succ_ne_zero _), fun _ => ?_⟩
  · rcases mem_sadd.1 hz with hz | rfl
    · exact h.sub.2 z hz
    · exact hy
  · rintro b hb (e | e | e | e | e | e)
    · omega
    · have := h.new.1 b e; omega
    · omega
    · omega
    · omega
    · omega
  · rcases hvo g hg with e | e
    · exact h.new.1 g e
    · omega
  · rcases hvo go e with e | e
    · exact h.new.2.1 e
    · omega
  · rcases List.mem_append.1 hc with hc | hc
    · exact h.new.2.2 c hc
    · rcases hnew c hc with e | e <;> omega
  · have a1 : 2 ^ ks1.length ≤ 2 ^ 15 := Nat.pow_le_pow_right (by omega) hks
    have a2 := h.cnt
    rw [List.length_append]
    omega
  · rcases Nat.eq_zero_or_pos j with hj | hj
    · have hXe := h.one.1 hj
      have : ks2 = [] := by
        cases ks2 with
        | nil => rfl
        | cons z l => have := hx z (by simp); rw [hXe] at this; cases this
      intro e; exact hone this (List.append_eq_nil_iff.1 e).2
    · intro e; exact h.one.2 hj (List.append_eq_nil_iff.1 e).1
set_option maxHeartbeats 16000000 in
set_option maxRecDepth 100000 in
theorem BK_spec {B pb : Nat} {w : World} {G : PG} (hG : Plain B w pb G) (hB : B ≤ w.heap.size) (hU : UG G) (h0 : 0 < G.ids.length) (h16 : G.ids.length ≤ 16) :
    Calls Tryz.prog 97 #[gV pb] w (BKPost w G) := by
  have hnf := nilFrom pb
  have hN := uNodes_spec hG
  have HN := Lib.hid hN
  have HG := Lib.hid hG
  have HU := Lib.hid hU
  have hnd := PG.ids_nodup hU.ok
  have HND := Lib.hid hnd
  clear hN hG hU hnd
  go_enter Tryz.func97, Tryz.ntmps97
  go_wp2_with (first
    | (((with_reducible refine (HN.out).mono ?_); rintro e w1 ⟨it, g1, rfl, hi1, hl1, hg1, hk1⟩))
    | (((with_reducible refine (NodesOf_spec hi1).mono ?_); rintro e w2 ⟨v2, rfl, hn2, hk2, hs2⟩); obtain ⟨a2, n2, c2, hn2l, rfl⟩ : ∃ a n c, n = G.ids.length ∧ v2 = .slice a n c := (by obtain ⟨a, c, h⟩ := hn2.slice; exact ⟨a, _, c, by simp, h⟩); have HN2 := Lib.hid hn2; have HN2L := Lib.hid hn2l; have HK2 := Lib.hid (hk1.trans hk2 (S := fun _ => False) (fun b hb h => by omega)); clear hn2 hn2l hk1 hk2 hs2 hi1)
    | (((with_reducible refine (NewNodesSize_spec _ _).mono ?_); rintro e w3 ⟨rfl, rfl⟩)))
  have hm3 : NSet (w2.alloc (.map #[] 0)) w2.heap.size (G.ids.take 0) := NSet.made w2
  have hk3 : Keep (fun b => b = w2.heap.size) w2 (w2.alloc (.map #[] 0)) := (Keep.refl _ _).alloc _
  have HM3 := Lib.hid hm3
  have HK3 := Lib.hid hk3
  clear hm3 hk3
  obtain ⟨ax, cx, hax, hcells⟩ := nodes_cases HN2.out.row
  cases hax
  have HCELL := Lib.hid hcells
  clear hcells
  generalize hll : G.ids.length = n at *
  have HLL := Lib.hid hll
  clear hll
  go_loopw [25] (fun i wr => ∃ k : Nat, i = .int .i64 (k : Int) ∧ k ≤ n ∧ NSet wr w2.heap.size (G.ids.take k) ∧ Keep (fun b => b = w2.heap.size) w2 wr) (fun i _ => n - (intOf i).toNat)
  case atStart => exact ⟨0, rfl, Nat.zero_le _, HM3.out, HK3.out⟩
  case round =>
    obtain ⟨k, rfl, hkn, hm, hk⟩ := hrel
    clear HM3 HK3
    have HM := Lib.hid hm
    have HK := Lib.hid hk
    clear hm hk
    by_cases hlt : k < n
    · obtain ⟨b, off, y, rfl, hy, _, hcc⟩ := HCELL.out k hlt
      have c0 := hcc _ _ HK.out (fun b hb => by omega)
      have HY := Lib.hid hy
      clear hcc hy
      go_wp2_with (first
        | (((with_reducible refine (NAdd_spec HM.out _).mono ?_); rintro e w3 ⟨rfl, h3, hk3, hs3⟩); have H3 := Lib.hid h3; have HK3 := Lib.hid hk3; clear h3 hk3 hs3))
      go_roundw
      case rel => exact ⟨k + 1, by go_num, by omega, by rw [← sadd_take HND.out HY.out]; exact H3.out, HK.out.trans HK3.out (fun b hb h => h)⟩
      case measure => simp [intOf]; omega
    · obtain rfl : k = n := by omega
      have hm' : NSet wr w2.heap.size G.ids := by have := HM.out; rwa [← HLL.out, List.take_length] at this
      have hkw : Keep (fun _ => False) w wr := HK2.out.trans HK.out (fun b hb h => by have := HK2.out.size; omega)
      have hws := HK2.out.size
      have hnml := hm'.lt
      have hdg := fun W (hk : Keep (fun _ => False) w W) => degeneracy_spec (HG.out.keepF hk) HU.out (by rw [HLL.out]; exact h0)
      have HM' := Lib.hid hm'
      have HKW := Lib.hid hkw
      have HDG := Lib.hid hdg
      have hwz := hkw.size
      clear hm' hkw hdg HM HK
      go_wp2_with (first
        | (((with_reducible refine (NewNodes_spec _).mono ?_); rintro e w4 ⟨rfl, rfl⟩))
        | (((with_reducible refine (HDG.out _ (((HKW.out).alloc _).alloc _)).mono ?_); rintro e w5 ⟨ov, sv, go, ord, rfl, hno, hgo, hol, hos, hk5⟩); obtain ⟨ao, co, rfl⟩ : ∃ a c, ov = .slice a k c := (by obtain ⟨a, c, h⟩ := hno.slice; exact ⟨a, c, by rw [h, List.length_map, hol, HLL.out]⟩); have HNO := Lib.hid hno; have HOL := Lib.hid hol; have HOS := Lib.hid hos; have HK5 := Lib.hid hk5; clear hno hol hos hk5)
        | (((with_reducible refine (reverse_spec HNO.out (by rw [HOL.out, HLL.out]; exact h0) (by rw [HOL.out, HLL.out]; omega)).mono ?_); rintro e w6 ⟨ord', rfl, hno6, hol6, hos6, hk6⟩); have HNO6 := Lib.hid hno6; have HOL6 := Lib.hid hol6; have HOS6 := Lib.hid hos6; have HK6 := Lib.hid hk6; clear hno6 hol6 hos6 hk6))
      simp only [World.size_alloc] at hgo
      have hk46 : Keep (fun b => b = go) ((wr.alloc (.map #[] 0)).alloc (.cells #[.slice none 0 0] 232 (0, 0))) w6 := (HK5.out.mono (T := fun b => b = go) (fun _ _ h => h.elim)).trans HK6.out (fun _ _ h => h)
      have hxg0 : wr.heap.size + 1 < go := by omega
      have hhead : w6.heap[wr.heap.size + 1]? = some (.cells #[.slice none 0 0] 232 (0, 0)) := hk46.get (new_at' (by simp) _) (by omega)
      have hbl : BL w w6 G (wr.heap.size + 1) w2.heap.size wr.heap.size go (.slice ao k co) ord' 0 (.slice none 0 0) [] G.ids [] := by
        refine ⟨⟨hhead, ⟨rfl, .inl ⟨rfl, rfl⟩⟩, fun c hc => (by cases hc), fun h => (by cases h)⟩, ?_, ?_, ⟨fun y hy => hy, fun y hy => (by cases hy)⟩, ?_, HNO6.out, ⟨fun g h => (by cases h), fun h => (by cases h), fun c hc => (by cases hc)⟩, by simp, fun _ => rfl, fun h => absurd h (Nat.lt_irrefl _)⟩
        · exact (HM'.out.keepF (((Keep.refl _ _).alloc _).alloc _)).keep hk46 (by omega)
        · exact ((NSet.made wr).keepF ((Keep.refl _ _).alloc _)).keep hk46 (by omega)
        · exact ((HKW.out.alloc _).alloc _).trans hk46 (fun b hb h => by omega)
      have HBL := Lib.hid hbl
      have HOS := Lib.hid (fun y (hy : y ∈ ord') => HOS.out y (HOS6.out y hy))
      have HOL := Lib.hid (show ord'.length = k by rw [HOL6.out, HOL.out, HLL.out])
      have hpx : w2.heap.size < wr.heap.size := by omega
      have hxg : wr.heap.size + 1 < go := by omega
      have hwp : w.heap.size ≤ w2.heap.size := by omega
      clear hk46 hhead hbl HK5 HK6 HNO HNO6 HOS6 HOL6 HM' HKW HDG HK2 HN2 HCELL
      go_wp2_with fail
      generalize w2.heap.size = pm at *
      generalize wr.heap.size = xm at *
      generalize hkb : xm + 1 = kb at *
      have hxk : xm < kb := by omega
      clear hkb
      go_loopg [43] (k + 1) (fun gk i wr => ∃ (j : Nat) (vc : Value) (cc : List CE) (Pc Xc : List Int), i = .int .i64 (j : Int) ∧ j + gk = k + 1 ∧ j ≤ k ∧ BL w wr G kb pm xm go (.slice ao k co) ord' j vc cc Pc Xc)
      case atStart => exact ⟨0, _, _, _, _, rfl, by omega, by omega, HBL.out⟩
      case round =>
        clear HBL
        obtain ⟨j, vc, cc, Pc, Xc, rfl, hgk, hjk, hbl⟩ := hrel
        have HGK := Lib.hid hgk
        have HBL := Lib.hid hbl
        clear hgk
        by_cases hlt2 : j < k
        · obtain ⟨ax, cx, hax, hcells⟩ := nodes_cases hbl.ord.row
          obtain ⟨b, off, y, hb, hy, _, hcc⟩ := hcells j (by rw [HOL.out]; exact hlt2)
          rw [HOL.out] at hax
          cases hax
          subst hb
          have c0 := hcc _ _ (Keep.refl (fun _ => False) wr) (fun _ h => h.elim)
          have hyi := HOS.out y (List.mem_of_getElem? hy)
          obtain ⟨i, hi, hfr⟩ := From_mem (HG.out.keepF hbl.keep) hyi
          have HYI := Lib.hid hyi
          have HFR := Lib.hid hfr
          have HNB := Lib.hid (Nbrs.of HU.out.ok hi)
          generalize hm : G.nbr i = m at *
          clear hcells hcc hy hbl hyi hfr hi hm
          go_upto_region 15 with fail
          go_cut [13] from 47 to 54 (fun tv wx => ∃ g2, NRow wx tv g2 (m.map nodeV) ∧ wr.heap.size ≤ g2 ∧ Keep (fun _ => False) wr wx)
          case first =>
            go_region_with (first
              | (((with_reducible refine (ID_at _ _).mono ?_); rintro e w5 ⟨rfl, rfl⟩))
              | (((with_reducible refine (HFR.out _ ((Keep.refl _ _).drew)).mono ?_); rintro e w6 ⟨it, g2, rfl, hi6, hl6, hg6, hk6⟩))
              | (((with_reducible refine (NodesOf_spec hi6).mono ?_); rintro e w7 ⟨v7, rfl, hn7, hk7, hs7⟩)))
            all_goals (go_wp2_with fail)
            all_goals go_meet
            all_goals exact ⟨g2, hn7, hg6, (Keep.trans ((Keep.refl (fun _ => False) wr).drew) hk6 (fun _ _ h => h)).trans hk7 (fun b hb h => by have : wr.heap.size ≤ it := hl6; omega)⟩
          case rest =>
            obtain ⟨g2, hn7, hg7, hk7⟩ := hcut
            obtain ⟨a7, n7, c7, hn7l, hu13⟩ : ∃ a n c, n = m.length ∧ u13 = .slice a n c := by obtain ⟨a, c, h⟩ := hn7.slice; exact ⟨a, _, c, by simp, h⟩
            subst hu13
            have HN7 := Lib.hid hn7
            have HN7L := Lib.hid hn7l
            have HK7 := Lib.hid hk7
            clear hn7 hn7l hk7
            go_wp2_with (first
              | (((with_reducible refine (NewNodesSize_spec _ _).mono ?_); rintro e w8 ⟨rfl, rfl⟩)))
            have hm8 : NSet (wc.alloc (.map #[] 0)) wc.heap.size (m.take 0) := NSet.made wc
            have hk8 : Keep (fun b => b = wc.heap.size) wc (wc.alloc (.map #[] 0)) := (Keep.refl _ _).alloc _
            have HM8 := Lib.hid hm8
            have HK8 := Lib.hid hk8
            clear hm8 hk8
            obtain ⟨ax, cx, hax, hcells⟩ := nodes_cases HN7.out.row
            cases hax
            have HCELL7 := Lib.hid hcells
            clear hcells
            have hn7b := HNB.out.len
            generalize hll : m.length = n7 at *
            have HLL7 := Lib.hid hll
            clear hll
            have HBL7 := Lib.hid (HBL.out.keepN HK7.out (fun _ h => h.elim))
            have hwc := HK7.out.size
            clear HBL HFR
            generalize gk = gko at *
            go_loopw [60] (fun i wr => ∃ k : Nat, i = .int .i64 (k : Int) ∧ k ≤ n7 ∧ NSet wr wc.heap.size (m.take k) ∧ Keep (fun b => b = wc.heap.size) wc wr) (fun i _ => n7 - (intOf i).toNat)
            case atStart => exact ⟨0, rfl, Nat.zero_le _, HM8.out, HK8.out⟩
            case round =>
              obtain ⟨k3, rfl, hkn3, hm, hk⟩ := hrel
              clear HM8 HK8
              have HM := Lib.hid hm
              have HK := Lib.hid hk
              clear hm hk
              by_cases hlt3 : k3 < n7
              · obtain ⟨b, off, y, rfl, hy, _, hcc⟩ := HCELL7.out k3 hlt3
                have c0 := hcc _ _ HK.out (fun b hb => by omega)
                have HY := Lib.hid hy
                clear hcc hy
                go_wp2_with (first
                  | (((with_reducible refine (NAdd_spec HM.out _).mono ?_); rintro e w3 ⟨rfl, h3, hk3, hs3⟩); have H3 := Lib.hid h3; have HK3 := Lib.hid hk3; clear h3 hk3 hs3))
                go_roundw
                case rel => exact ⟨k3 + 1, by go_num, by omega, by rw [← sadd_take HNB.out.nd HY.out]; exact H3.out, HK.out.trans HK3.out (fun b hb h => h)⟩
                case measure => simp [intOf]; omega
              · obtain rfl : k3 = n7 := by omega
                have hm9 : NSet wr wc.heap.size m := by have := HM.out; rwa [← HLL7.out, List.take_length] at this
                have HBL9 := Lib.hid (HBL7.out.keepN HK.out (fun b h => by omega))
                have HM9 := Lib.hid hm9
                have hw79 := HK.out.size
                have hPc : Pc.length ≤ 1000 := Nat.le_trans (nodup_le HBL7.out.p.nodup HBL7.out.sub.1) HU.out.ok.small
                have hXc : Xc.length ≤ 1000 := Nat.le_trans (nodup_le HBL7.out.x.nodup HBL7.out.sub.2) HU.out.ok.small
                have hmn : m.length ≤ 1000 := HNB.out.len
                have hnew : (wr.alloc (.cells #[nodeV y] 66 (0, 0))).heap[wr.heap.size]? = some (.cells #[nodeV y] 66 (0, 0)) := heap_new wr _
                have hcr : CRow (wr.alloc (.cells #[nodeV y] 66 (0, 0))) (.slice (some ⟨wr.heap.size, 0, none⟩) 1 1) wr.heap.size [y] := ⟨0, 1, rfl, fun j u hu => (by rw [Nat.zero_add, cell_of hnew]; simpa using hu), by simp, by simp, by unfold maxLen; omega⟩
                have HCR := Lib.hid hcr
                have HBL10 := Lib.hid (HBL9.out.keepN ((Keep.refl (fun _ => False) wr).alloc (.cells #[nodeV y] 66 (0, 0))) (fun _ h => h.elim))
                have HM10 := Lib.hid (hm9.keepF ((Keep.refl (fun _ => False) wr).alloc (.cells #[nodeV y] 66 (0, 0))))
                clear hm9 hnew hcr HM HK HBL7 HM9
                go_wp2_with (first
                  | (((with_reducible refine (inter_spec HBL10.out.p HM10.out (by omega) (by omega)).mono ?_); rintro e w11 ⟨m1, ks1, rfl, hm1, hs1, hx1, hk11⟩); have HS1 := Lib.hid hs1; have HX1 := Lib.hid hx1; have HK11 := Lib.hid hk11; have HBL11 := Lib.hid (HBL10.out.keepN hk11 (fun _ h => h.elim)); have HM11 := Lib.hid (HM10.out.keepF hk11); clear hs1 hx1 hk11)
                  | (((with_reducible refine (inter_spec HBL11.out.x HM11.out (by omega) (by omega)).mono ?_); rintro e w12 ⟨m2, ks2, rfl, hm2, hs2, hx2, hk12⟩); have HS2 := Lib.hid hs2; have HX2 := Lib.hid hx2; have HK12 := Lib.hid hk12; have HBL12 := Lib.hid (HBL11.out.keepN hk12 (fun _ h => h.elim)); clear hs2 hx2 hk12))
                have s9 := HBL9.out
                have z1 := lt_of_get s9.bk.head
                have z3 := s9.p.lt
                have z4 := s9.x.lt
                have z11 := HK11.out.size
                have z12 := HK12.out.size
                simp only [World.size_alloc] at z11 hm1
                have zm1 := HS1.out.lt
                have hgo9 : go < wr.heap.size := by
                  rcases s9.ord with ⟨_, h⟩ | ⟨_, _, _, _, _, _, h⟩
                  · have : ord' = [] := by simpa using h
                    have h2 := HOL.out
                    rw [this] at h2
                    simp at h2; omega
                  · exact h.1
                have hks1 : ks1.length ≤ 15 := by
                  have hsub : ∀ z ∈ ks1, z ∈ sdel G.ids y := fun z hz => by
                    obtain ⟨hy1, hy2⟩ := (HX1.out z).1 hz
                    exact mem_sdel.2 ⟨s9.sub.1 z hy1, fun e => HU.out.irr y (by rw [e] at hy2; exact (HNB.out.mem y).1 hy2)⟩
                  have h1 := nodup_le HS1.out.nodup hsub
                  have h2 := sdel_length HYI.out
                  rw [HLL.out] at h2
                  omega
                have hpre : MPre w12 G B pb kb m1 m2 wr.heap.size vc (.slice (some ⟨wr.heap.size, 0, none⟩) 1 1) cc [y] ks1 ks2 := by
                  refine ⟨HG.out.keepF HBL12.out.keep, HBL12.out.bk, (HCR.out.keep HK11.out (fun h => h)).keep HK12.out (fun h => h), Clique.one HYI.out, by omega, fun e => ?_, HS1.out.keepF HK12.out, HS2.out, by omega, fun z hz => ?_, fun z hz => ?_, ?_, by omega, fun g hg => ?_, by omega, by omega⟩
                  · have := ownBlock_lt s9.bk.own e; omega
                  · obtain ⟨hy1, hy2⟩ := (HX1.out z).1 hz
                    exact ⟨s9.sub.1 z hy1, fun z' hz' => by simp only [List.mem_singleton] at hz'; rw [hz']; exact (HNB.out.mem z).1 hy2⟩
                  · exact s9.sub.2 z ((HX2.out z).1 hz).1
                  · have b1 := s9.cnt
                    have b3 : 2 ^ ks1.length ≤ 2 ^ 15 := Nat.pow_le_pow_right (by omega) hks1
                    omega
                  · have := s9.new.1 g hg; omega
                have hrec := mcp_spec HU.out ks1.length w12 kb m1 m2 wr.heap.size vc _ cc [y] ks1 ks2 rfl hpre
                have HREC := Lib.hid hrec
                have HKS1 := Lib.hid hks1
                have hw12 : w.heap.size ≤ wr.heap.size := s9.keep.size
                clear s9 hpre hrec hks1
                have hne12 : ∀ v13 cs13 w13, BKAt w13 G kb v13 cs13 → Keep (fun b => b = kb ∨ vc.ownBlock = some b ∨ b = m1 ∨ b = m2) w12 w13 → NSet w13 pm Pc ∧ NSet w13 xm Xc := fun v13 cs13 w13 hb hk => by
                  have hne : ∀ m ks, NSet w12 m ks → vc.ownBlock ≠ some m := by
                    rintro m ks hm e
                    rcases HBL12.out.bk.own.2 with ⟨e', _⟩ | ⟨g', cap, cur, e', _, hh, _⟩
                    · rw [e'] at e; cases e
                    · rw [e'] at e; cases e; exact MapAt.ne_cells hm hh rfl
                  refine ⟨HBL12.out.p.keep hk ?_, HBL12.out.x.keep hk ?_⟩
                  · rintro (e | e | e | e)
                    · omega
                    · exact hne _ _ HBL12.out.p e
                    · omega
                    · omega
                  · rintro (e | e | e | e)
                    · omega
                    · exact hne _ _ HBL12.out.x e
                    · omega
                    · omega
                have HNE12 := Lib.hid hne12
                clear hne12
                go_wp2_with (first
                  | (((with_reducible refine (HREC.out).mono ?_); rintro e w13 ⟨rfl, v13, cs13, hb13, hone13, hlen13, hnew13, hk13, hmv13⟩); have hpx13 := HNE12.out _ _ _ hb13 hk13; have HP13 := Lib.hid hpx13.1; have HX13 := Lib.hid hpx13.2; have HB13 := Lib.hid hb13; have HONE13 := Lib.hid hone13; have HLEN13 := Lib.hid hlen13; have HNEW13 := Lib.hid hnew13; have HK13 := Lib.hid hk13; have HMV13 := Lib.hid hmv13; clear hpx13 hb13 hone13 hlen13 hnew13 hk13 hmv13)
                  | (((with_reducible refine (NRem_spec HP13.out y).mono ?_); rintro e w14 ⟨rfl, hp14, _, hk14, hs14⟩); have hx14 := HX13.out.keep hk14 (by omega); have HP14 := Lib.hid hp14; have HK14 := Lib.hid hk14; have HX14 := Lib.hid hx14; clear hp14 hk14 hs14 hx14)
                  | (((with_reducible refine (NAdd_spec HX14.out y).mono ?_); rintro e w15 ⟨rfl, hx15, hk15, hs15⟩); have HX15 := Lib.hid hx15; have HK15 := Lib.hid hk15; clear hx15 hk15 hs15))
                go_roundg (gko - 1)
                case measure => have := HGK.out; omega
                case rel =>
                  have hd := HBL12.out.done HB13.out HK13.out HNEW13.out HMV13.out HLEN13.out HKS1.out HONE13.out (fun z hz => ((HX2.out z).1 hz).1) HYI.out ⟨by omega, by omega, by omega, by omega⟩ ⟨by omega, by omega, by omega, by omega⟩ ⟨by omega, by omega, by omega, by omega⟩ ⟨by omega, by omega, by omega⟩ (by omega) HP14.out HK14.out HX15.out HK15.out
                  exact ⟨j + 1, v13, cc ++ cs13, _, _, by go_num, by have := HGK.out; omega, by omega, hd⟩
        · obtain rfl : j = k := by omega
          have c0 := cell_of hbl.bk.head 0
          simp only [List.getElem?_toArray, List.getElem?_cons_zero] at c0
          clear hbl
          go_wp2_with fail
          go_ret
          have h := HBL.out
          refine ⟨vc, cc, rfl, ⟨h.bk.own.1, ?_⟩, fun c hc => ⟨(h.bk.each c hc).1, (h.bk.each c hc).2.1, h.new.2.2 c hc, (h.bk.each c hc).2.2.2⟩, h.one.2 h0, by have := h.cnt; omega, h.keep⟩
          rcases h.bk.own.2 with h' | ⟨g, cap, cur, e1, e2, e3⟩
          · exact .inl h'
          · exact .inr ⟨g, cap, cur, e1, h.new.1 g (by rw [e1]; rfl), e3⟩
end Go.Proofs.YtdaccgelmcmfjaaGreatDoor
end
/- coloring.maximumClique: the number of nodes of some clique, that clique, and all the cliques. -/
section
namespace Go.Proofs.YtdaccgelmcmfjaaGreatDoor
open Go.RowKit Go.V
theorem owns_cell {w : World} {B T n : Nat} {v : Value} {xs : List Value} (h : w.ownsRow B T 1 v n xs) (hn : n ≠ 0) : ∃ g cap, v = .slice (some ⟨g, 0, none⟩) n cap ∧ B ≤ g ∧ g < w.heap.size ∧ n ≤ cap ∧ cap ≤ maxLen ∧ (∀ i, w.frozen? ⟨g, i, none⟩ = false) ∧ ∀ j u, xs[j]? = some u → w.cell? ⟨g, j, none⟩ = some u := by
  rcases h.2 with ⟨_, h0⟩ | ⟨g, cap, cur, hv, hb, hh, h1, h2, h3, h4⟩
  · exact absurd h0 hn
  · rw [Nat.mul_one] at h4
    refine ⟨g, cap, hv, hb, lt_of_get hh, h1, h2, fun i => free_of hh i, fun j u hu => ?_⟩
    rw [cell_of hh]
    rw [← h4, List.getElem?_take] at hu
    split at hu
    · simpa using hu
    · cases hu
structure Cl (w : World) (B : Nat) (G : PG) (v : Value) (cs : List CE) : Prop where
  own : w.ownsRow B 61 1 v cs.length (cs.map (·.v))
  each : ∀ c ∈ cs, CRow w c.v c.b c.l ∧ Clique G c.l ∧ B ≤ c.b ∧ v.ownBlock ≠ some c.b
  ne : cs ≠ []
  len : cs.length ≤ 1000000
theorem Cl.keep {w w' : World} {B : Nat} {G : PG} {v : Value} {cs : List CE} {S : Nat → Prop} (h : Cl w B G v cs) (hk : Keep S w w') (h1 : ∀ g, v.ownBlock = some g → ¬ S g) (h2 : ∀ c ∈ cs, ¬ S c.b) : Cl w' B G v cs :=
  ⟨ownsRow_keep h.own hk h1, fun c hc => ⟨(h.each c hc).1.keep hk (h2 c hc), (h.each c hc).2⟩, h.ne, h.len⟩
theorem Cl.keepF {w w' : World} {B : Nat} {G : PG} {v : Value} {cs : List CE} (h : Cl w B G v cs) (hk : Keep (fun _ => False) w w') : Cl w' B G v cs := h.keep hk (fun _ _ h => h) (fun _ _ h => h)
theorem BK_use {B pb : Nat} {w : World} {G : PG} (hG : Plain B w pb G) (hB : B ≤ w.heap.size) (hU : UG G) (h0 : 0 < G.ids.length) (h16 : G.ids.length ≤ 16) :
    Calls Tryz.prog 97 #[gV pb] w fun e w' => ∃ v cs, e = .returned v ∧ Cl w' w.heap.size G v cs ∧ Keep (fun _ => False) w w' :=
  (BK_spec hG hB hU h0 h16).mono (by rintro e w' ⟨v, cs, h1, h2, h3, h4, h5, h6⟩; exact ⟨v, cs, h1, ⟨h2, h3, h4, h5⟩, h6⟩)
def MaxPost (w : World) (G : PG) (e : Ending) (w' : World) : Prop :=
  ∃ (ml : List Int) (mb : Nat) (mv v : Value) (cs : List CE), e = .returned (.tuple #[.int .i64 (ml.length : Int), mv, v]) ∧ CRow w' mv mb ml ∧ Clique G ml ∧ Cl w' w.heap.size G v cs ∧ Keep (fun _ => False) w w'
def Best (cs : List CE) (k : Nat) (mv : Value) : Prop := (k = 0 ∧ mv = .slice none 0 0) ∨ ∃ c ∈ cs, mv = c.v
set_option maxHeartbeats 8000000 in
set_option maxRecDepth 20000 in
theorem maxClique_spec {B pb : Nat} {w : World} {G : PG} (hG : Plain B w pb G) (hB : B ≤ w.heap.size) (hU : UG G) (h0 : 0 < G.ids.length) (h16 : G.ids.length ≤ 16) :
    Calls Tryz.prog 51 #[gV pb] w (MaxPost w G) := by
  have hbk := fun W (hk : Keep (fun _ => False) w W) => BK_use (hG.keepF hk) (Nat.le_trans hB hk.size) hU h0 h16
  have HBK := Lib.hid hbk
  clear hbk hG hB hU h0 h16
  go_enter Tryz.func51, Tryz.ntmps51
  go_wp2_with (first
    | (go_at_call 97; refine (HBK.out w (Keep.refl _ _)).mono ?_; rintro e w1 ⟨v1, cs1, rfl, hc1, hk1⟩; have HC1 := Lib.hid hc1; have HK1 := Lib.hid hk1; clear hc1 hk1)
    | (((with_reducible refine (HBK.out w1 HK1.out).mono ?_); rintro e w2 ⟨v2, cs2, rfl, hc2, hk2⟩); obtain ⟨g2, cap2, rfl, hg2, hgl2, hcc2, hcm2, _, hcell2⟩ := owns_cell hc2.own (by have := hc2.ne; simpa using this); have HC2 := Lib.hid hc2; have HK2 := Lib.hid hk2; have HCELL := Lib.hid hcell2; have HC12 := Lib.hid (HC1.out.keepF hk2); have hcl := hc2.len; clear hc2 hk2 hcell2))
  have HK := Lib.hid (HK1.out.trans HK2.out (fun _ _ h => h))
  have hne2 : 0 < cs2.length := by have := HC2.out.ne; rcases cs2 with _ | ⟨a, l⟩; exact absurd rfl this; simp
  generalize hnn : cs2.length = n at *
  have HN := Lib.hid hnn
  clear hnn
  go_loop [3, 12] (fun mv i => ∃ k : Nat, i = .int .i64 (k : Int) ∧ k ≤ n ∧ Best cs2 k mv) (fun _ i => n - (intOf i).toNat)
  case atStart => exact ⟨0, rfl, Nat.zero_le _, .inl ⟨rfl, rfl⟩⟩
  case round =>
    obtain ⟨k, rfl, hkn, hbest⟩ := hrel
    have HBEST := Lib.hid hbest
    by_cases hlt : k < n
    · obtain ⟨c, hc⟩ : ∃ c, cs2[k]? = some c := ⟨_, List.getElem?_eq_getElem (by rw [HN.out]; exact hlt)⟩
      have c0 := HCELL.out k c.v (by rw [List.getElem?_map, hc]; rfl)
      have hcm := List.mem_of_getElem? hc
      obtain ⟨off, cap, hcv, _, hcne, _⟩ := (HC2.out.each c hcm).1
      have hcl0 : 0 < c.l.length := by rcases hcl' : c.l with _ | ⟨a, l⟩; exact absurd hcl' hcne; simp
      have HCM := Lib.hid hcm
      have HCV := Lib.hid hcv
      rw [hcv] at c0
      clear hc hcm hcv hcne
      rcases hbest with ⟨rfl, rfl⟩ | ⟨c', hc', rfl⟩
      · go_wp2_with fail
        go_round
        case rel => exact ⟨1, by go_num, by omega, .inr ⟨c, HCM.out, HCV.out.symm⟩⟩
        case measure => simp [intOf]; omega
      · obtain ⟨off', cap', hcv', _⟩ := (HC2.out.each c' hc').1
        have HCM' := Lib.hid hc'
        have HCV' := Lib.hid hcv'
        rw [hcv']
        clear hc' hcv'
        go_wp2_with fail
        · go_round
          case rel => exact ⟨k + 1, by go_num, by omega, .inr ⟨c, HCM.out, HCV.out.symm⟩⟩
          case measure => simp [intOf]; omega
        · go_round
          case rel => exact ⟨k + 1, by go_num, by omega, .inr ⟨c', HCM'.out, HCV'.out.symm⟩⟩
          case measure => simp [intOf]; omega
    · obtain rfl : k = n := by omega
      rcases hbest with ⟨h, _⟩ | ⟨c', hc', rfl⟩
      · omega
      · obtain ⟨off', cap', hcv', _⟩ := (HC2.out.each c' hc').1
        have HCM' := Lib.hid hc'
        have HCV' := Lib.hid hcv'
        rw [hcv']
        clear hc' hcv'
        go_wp2_with fail
        go_ret3
        have hm := HC2.out.each c' HCM'.out
        exact ⟨c'.l, c'.b, _, v1, cs1, rfl, HCV'.out ▸ hm.1, hm.2.1, HC12.out, HK.out⟩
end Go.Proofs.YtdaccgelmcmfjaaGreatDoor
end
/- coloring.bestMaximumClique: the colouring of some clique. -/
section
namespace Go.Proofs.YtdaccgelmcmfjaaGreatDoor
open Go.RowKit Go.V Go.Sort Go.Lib
structure Sl where
  b : Nat
  off : Nat
  len : Nat
  cap : Nat
  hl : len ≤ 1000
instance : Inhabited Sl := ⟨⟨0, 0, 0, 0, by omega⟩⟩
def Sl.enc (s : Sl) : Value := .slice (some ⟨s.b, s.off, none⟩) s.len s.cap
def Sl.cmp (x y : Sl) : Int := (y.len : Int) - (x.len : Int)
theorem Sl.swo : SWO (ltOf Sl.cmp) where
  irrefl x := by unfold ltOf Sl.cmp; simp
  trans x y z h1 h2 := by unfold ltOf Sl.cmp at *; simp only [decide_eq_true_eq] at *; omega
  ntrans x y z h1 h2 := by unfold ltOf Sl.cmp at *; simp only [decide_eq_false_iff_not] at *; omega
theorem cmpSl_spec (x y : Sl) (W : World) : Calls Tryz.prog 106 #[x.enc, y.enc] W fun e w' => e = .returned (.int .i64 (Sl.cmp x y)) ∧ w' = W := by
  have h1 := x.hl
  have h2 := y.hl
  unfold Sl.enc Sl.cmp
  generalize x.len = m at *
  generalize y.len = n at *
  go_enter Tryz.func106, Tryz.ntmps106
  go_wp2
  go_ret
  exact ⟨rfl, rfl⟩
theorem exists_sls : ∀ (cs : List CE), (∀ c ∈ cs, (∃ off cap, c.v = .slice (some ⟨c.b, off, none⟩) c.l.length cap) ∧ c.l.length ≤ 1000) → ∃ ds : List Sl, ds.map Sl.enc = cs.map (·.v)
  | [], _ => ⟨[], rfl⟩
  | c :: cs, h => by
    obtain ⟨ds, hds⟩ := exists_sls cs fun c' hc' => h c' (List.mem_cons_of_mem _ hc')
    obtain ⟨⟨off, cap, e⟩, hl⟩ := h c (List.mem_cons_self ..)
    exact ⟨⟨c.b, off, c.l.length, cap, hl⟩ :: ds, by rw [List.map_cons, List.map_cons, hds, e]; rfl⟩
theorem sortCl_spec {w : World} {B g cap : Nat} {G : PG} {cs : List CE} (hU : UG G) (h : Cl w B G (.slice (some ⟨g, 0, none⟩) cs.length cap) cs) :
    Calls Tryz.prog 105 #[.slice (some ⟨g, 0, none⟩) cs.length cap, .func (.func 106) #[] #[]] w fun e w' =>
      e = .returned (.tuple #[]) ∧ (∀ j, j < cs.length → ∃ c ∈ cs, w'.cell? ⟨g, j, none⟩ = some c.v) ∧ Keep (fun b => b = g) w w' := by
  obtain ⟨ds, hds⟩ := exists_sls cs fun c hc => by
    obtain ⟨⟨off, cap, e, _⟩, hcl, _⟩ := h.each c hc
    exact ⟨⟨off, cap, e⟩, Nat.le_trans (hcl.length hU) hU.ok.small⟩
  have hlen : ds.length = cs.length := by have := congrArg List.length hds; simpa using this
  have hne : cs.length ≠ 0 := by have := h.ne; simpa using this
  obtain ⟨g', cap', e, _, hgl, _, _, hfr, hcell⟩ := owns_cell h.own hne
  cases e
  have hH : Holds Sl.enc w g 0 ds.toArray := fun j hj => by
    have hj' : j < ds.length := by simpa using hj
    refine ⟨?_, hfr _⟩
    rw [Nat.zero_add]
    refine hcell j _ ?_
    rw [← hds, List.getElem?_map, List.getElem?_eq_getElem hj']
    simp [hj']
  have eg : ∀ args w, (callFunc 106 args).run Tryz.prog w = .ok (.enter 106 args) w := enters_of Tryz.func106 (by kernel_rfl) rfl
  have hcmp : CmpLays1 Tryz.prog 106 #[] Sl.enc Sl.cmp g 0 ds.toArray.size w := fun m os dk _ x y =>
    (cmpSl_spec x y _).mono (by rintro e w' ⟨rfl, rfl⟩; exact ⟨rfl, 0, #[], by rw [grow_empty]; rfl⟩)
  have hs := Tryz.slices_SortFunc_f105 Sl.enc (fun _ => rfl) Sl.cmp Sl.swo 106 #[] g 0 cap ds.toArray w eg hcmp hH hgl (by have := h.len; simp; omega)
  rw [show ds.toArray.size = cs.length by simpa using hlen] at hs
  refine hs.mono ?_
  rintro e w' ⟨rfl, d', n, os, hp, -, rfl⟩
  refine ⟨rfl, fun j hj => ?_, keep_sortWorld ..⟩
  have hsz : d'.size = ds.toArray.size := hp.1
  have hh := holds_sortWorld Sl.enc w g 0 n ds.toArray d' os hgl hH hsz j (by rw [hsz]; simp; omega)
  rw [Nat.zero_add] at hh
  have hjd : j < d'.size := by rw [hsz]; simp; omega
  have hmem : d'[j]! ∈ ds := by
    have hpm := hp.2.2
    rw [show cs.length = ds.toArray.size by simp [hlen]] at hpm
    rw [Array.extract_size, show ds.toArray.size = d'.size from hsz.symm, Array.extract_size] at hpm
    have : d'[j]! ∈ d'.toList := by rw [getElem!_pos d' j hjd]; simp
    have := hpm.mem_iff.1 this
    simpa using this
  have hv : (d'[j]!).enc ∈ cs.map (·.v) := by rw [← hds]; exact List.mem_map_of_mem hmem
  obtain ⟨c, hc, e⟩ := List.mem_map.1 hv
  exact ⟨c, hc, by rw [hh.1, e]⟩
end Go.Proofs.YtdaccgelmcmfjaaGreatDoor
end
