/- topo.degeneracyOrdering: it ends, and hands back nodes of the graph, as many as there are. -/
import Derived.Test.YtdaccgelmcmfjaaGreatDoorDN
import Derived.BigRegion
set_option linter.all false
namespace Go.Proofs.YtdaccgelmcmfjaaGreatDoor
open Go.RowKit Go.V
def DegPost (w : World) (G : PG) (e : Ending) (w' : World) : Prop :=
  ∃ (lv sv : Value) (g : Nat) (ord : List Int), e = .returned (.tuple #[lv, sv]) ∧ NRow w' lv g (ord.map nodeV) ∧ w.heap.size ≤ g ∧ ord.length = G.ids.length ∧ (∀ u ∈ ord, u ∈ G.ids) ∧ Keep (fun _ => False) w w'
set_option maxHeartbeats 16000000 in
set_option maxRecDepth 200000 in
theorem degeneracy_spec {B pb : Nat} {w : World} {G : PG} (hG : Plain B w pb G) (hU : UG G) (h0 : 0 < G.ids.length) :
    Calls Tryz.prog 137 #[gV pb] w (DegPost w G) := by
  have hmm := @run_makeMapN Tryz.prog _ _ _ Tryz.underlying83
  have hm2 := @run_makeMap Tryz.prog
  have hnd := PG.ids_nodup hG.ok
  have hfr : ∀ (k : Nat) (u : Int), G.ids[k]? = some u → ∀ W, Keep (fun _ => False) w W → Calls Tryz.prog 257 #[uV pb, .int .i64 u] W fun e w' => ∃ it g, e = .returned (.iface 284 (.pointer (some ⟨it, 0, none⟩))) ∧ Iter w' it g ((nbo G u).map nodeV) 0 ∧ W.heap.size ≤ it ∧ W.heap.size ≤ g ∧ Keep (fun _ => False) W w' := fun k u hk W hkW => by
    rw [nbo_at hG.ok hk]; exact uFrom_spec (hG.keepF hkW) hk
  have hno := uNodes_spec hG
  have hsm := hG.ok.small
  have hlen := fun u (hu : u ∈ G.ids) => nbo_length hG.ok hu
  have HND := Lib.hid hnd
  have HFR := Lib.hid hfr
  have HNO := Lib.hid hno
  have HU := Lib.hid hU
  have HLEN := Lib.hid hlen
  clear hnd hfr hno hU hG hlen
  generalize hnn : G.ids.length = n at *
  have HNN := Lib.hid hnn
  clear hnn
  go_enter Tryz.func137, Tryz.ntmps137
  go_wp2_with (first
    | (((with_reducible refine (HNO.out).mono ?_); rintro e w1 ⟨it, g, rfl, hi, h1, h2, hk1⟩); have HK1 := Lib.hid hk1; clear hk1)
    | (((with_reducible refine (NodesOf_spec hi).mono ?_); rintro e w2 ⟨v2, rfl, hn2, hk2, hs2⟩); have hg2 := hi.lt'; obtain ⟨a4, c4, rfl, hcells⟩ := nodes_cases hn2.row; have HCELL := Lib.hid hcells; have HK2 := Lib.hid (HK1.out.trans hk2 (fun b hb h => by omega)); have HN2 := Lib.hid hn2; have HS2 := Lib.hid hs2; have HHI := Lib.hid hi; rw [HNN.out]; clear hcells hk2 hn2 hs2 hi))
  have hk3 := ((Keep.refl (fun b => b = w2.heap.size ∨ b = w2.heap.size + 1) w2).alloc (.map #[] 0)).alloc (.map #[] 0)
  have hc0 : ColAt ((w2.alloc (.map #[] 0)).alloc (.map #[] 0)) w2.heap.size (degs (nbo G) (G.ids.take 0)) := (MapAt.made w2).keep ((Keep.refl (fun _ => False) _).alloc _) (fun h => h)
  have hm0 : MapAt ((w2.alloc (.map #[] 0)).alloc (.map #[] 0)) (w2.heap.size + 1) [] := by have := MapAt.made (w2.alloc (.map #[] 0)); rwa [World.size_alloc] at this
  have HK3 := Lib.hid hk3
  have HC0 := Lib.hid hc0
  have HM0 := Lib.hid hm0
  clear hk3 hc0 hm0 HNO HHI
  go_loopw [6, 35] (fun mx i wr => ∃ (k m : Nat) (kvs : KV), i = .int .i64 (k : Int) ∧ k ≤ n ∧ mx = .int .i64 (m : Int) ∧ m ≤ 1000 ∧ (∀ u ∈ G.ids.take k, (nbo G u).length ≤ m) ∧ ColAt wr w2.heap.size (degs (nbo G) (G.ids.take k)) ∧ MapAt wr (w2.heap.size + 1) kvs ∧ RowsOf wr (w2.heap.size + 2) wr.heap.size (nbo G) (G.ids.take k) kvs ∧ Keep (fun b => b = w2.heap.size ∨ b = w2.heap.size + 1) w2 wr) (fun mx i _ => n - (intOf i).toNat)
  case atStart => exact ⟨0, 0, [], rfl, Nat.zero_le _, rfl, by omega, by simp, HC0.out, HM0.out, fun u hu => by simp at hu, HK3.out⟩
  case round =>
    obtain ⟨k, m, kvs, rfl, hkn, rfl, hm1, hmx, hcol, hmap, hrows, hk⟩ := hrel
    clear HC0 HM0 HK3
    have HC := Lib.hid hcol
    have HM := Lib.hid hmap
    have HR := Lib.hid hrows
    have HK := Lib.hid hk
    have HMX := Lib.hid hmx
    have hwr := hmap.lt
    have hkw : Keep (fun _ => False) w wr := HK2.out.trans hk (fun b hb e => by have := HK2.out.size; omega)
    have HKW := Lib.hid hkw
    clear hcol hmap hrows hk hmx hkw
    by_cases hlt : k < n
    · skip
      --<
      as_aux_lemma =>
      obtain ⟨b, off, u, rfl, hu, _, hcc⟩ := HCELL.out k (by rw [HNN.out]; exact hlt)
      have c0 := hcc _ _ HK.out (fun b hb => by omega)
      have HUU := Lib.hid hu
      have hul := HLEN.out u (List.mem_of_getElem? hu)
      have htk : G.ids.take (k + 1) = G.ids.take k ++ [u] := by rw [List.take_add_one, hu]; rfl
      have hnin : u ∉ G.ids.take k := by
        intro hx
        obtain ⟨j, hj⟩ := List.mem_iff_getElem?.1 hx
        rw [List.getElem?_take] at hj
        split at hj
        · rename_i hjk
          obtain ⟨q1, e1⟩ := List.getElem?_eq_some_iff.1 hj
          obtain ⟨q2, e2⟩ := List.getElem?_eq_some_iff.1 hu
          have := (List.getElem_inj (h₀ := q1) (h₁ := q2) HND.out).1 (e1.trans e2.symm)
          omega
        · cases hj
      have HTK := Lib.hid htk
      have HNI := Lib.hid hnin
      clear hcc hu htk hnin
      go_wp2_with (first
        | (((with_reducible refine (ID_spec _ _).mono ?_); rintro e w3 ⟨rfl, rfl⟩))
        | (((with_reducible refine (HFR.out k u HUU.out _ HKW.out).mono ?_); rintro e w4 ⟨it4, g4, rfl, hi4, h14, h24, hk4⟩); have hg4 := hi4.lt'; have HK4 := Lib.hid hk4; clear hk4)
        | (((with_reducible refine (NodesOf_spec hi4).mono ?_); rintro e w5 ⟨v5, rfl, hn5, hk5, hs5⟩); obtain ⟨a5, c5, rfl⟩ := hn5.slice; have HN5 := Lib.hid hn5; have HK5 := Lib.hid (HK4.out.trans hk5 (fun b hb h => by omega)); have HS5 := Lib.hid hs5; rw [List.length_map]; clear hn5 hk5 hs5 hi4)
        | (at_mapUpdate; refine wpList_update_kv rfl _ _ _ _ rfl 2 61 Tryz.underlying265 Tryz.underlying2 (w2.heap.size + 1) _ u (.slice a5 (nbo G u).length c5) rfl rfl rfl (HM.out.keep HK5.out (fun h => h)) ?_; intro w6 q1 q2 q3; have HQ1 := Lib.hid q1; have HQ2 := Lib.hid q2; have HQ3 := Lib.hid q3; clear q1 q2 q3)
        | (at_mapUpdate; refine wpList_update_kv rfl _ _ _ _ rfl 2 3 Tryz.underlying83 Tryz.underlying2 w2.heap.size _ u (.int .i64 ((nbo G u).length : Int)) rfl rfl rfl ((HC.out.keepF HK5.out).keep HQ2.out (by omega)) ?_; intro w7 q1 q2 q3; rw [kput_ckv, degs_step HNI.out] at q1; have HP1 := Lib.hid q1; have HP2 := Lib.hid q2; have HP3 := Lib.hid q3; clear q1 q2 q3))
      all_goals
        have hfin : ∀ m' : Nat, m' ≤ 1000 → m ≤ m' → (nbo G u).length ≤ m' → (∃ (k' m : Nat) (kvs : KV), Value.int .i64 ((k : Int) + 1) = .int .i64 (k' : Int) ∧ k' ≤ n ∧ Value.int .i64 (m' : Int) = .int .i64 (m : Int) ∧ m ≤ 1000 ∧ (∀ u ∈ G.ids.take k', (nbo G u).length ≤ m) ∧ ColAt w7 w2.heap.size (degs (nbo G) (G.ids.take k')) ∧ MapAt w7 (w2.heap.size + 1) kvs ∧ RowsOf w7 (w2.heap.size + 2) w7.heap.size (nbo G) (G.ids.take k') kvs ∧ Keep (fun b => b = w2.heap.size ∨ b = w2.heap.size + 1) w2 w7) := fun m' a1 a2 a3 => by
          have e3 := HP3.out
          have e6 := HQ3.out
          have e5 := HS5.out
          have hkk : Keep (fun b => b = w2.heap.size ∨ b = w2.heap.size + 1) w3 w7 := ((HK5.out.mono (T := fun b => b = w2.heap.size ∨ b = w2.heap.size + 1) (fun _ _ h => h.elim)).trans HQ2.out (fun _ _ h => .inr h)).trans HP2.out (fun _ _ h => .inl h)
          have hs7 : w3.heap.size ≤ w7.heap.size := hkk.size
          refine ⟨k + 1, m', kput kvs u (.slice a5 (nbo G u).length c5), rfl, by omega, rfl, a1, fun x hx => ?_, ?_, HQ1.out.keep HP2.out (by omega), ?_, HK.out.trans hkk (fun _ _ h => h)⟩
          · rw [HTK.out] at hx
            rcases List.mem_append.1 hx with hx | hx
            · exact Nat.le_trans (HMX.out x hx) a2
            · have : x = u := by simpa using hx
              rw [this]; exact a3
          · rw [HTK.out]; exact HP1.out
          · rw [HTK.out]
            refine RowsOf.put ((HR.out.keep hkk (fun g q1 q2 h => ?_)).mono hs7) (((show NRow w5 (.slice a5 (nbo G u).length c5) g4 ((nbo G u).map nodeV) by have := HN5.out; rwa [List.length_map] at this).keep HQ2.out ?_).keep HP2.out ?_) ?_ ?_
            all_goals omega
      · exact ⟨hfin _ hul (by omega) (by omega), by simp [intOf]; omega⟩
      · exact ⟨hfin _ hm1 (by omega) (by omega), by simp [intOf]; omega⟩
      -->
    · obtain rfl : k = n := by omega
      rename World => wd
      have htn : G.ids.take k = G.ids := by rw [← HNN.out, List.take_length]
      have hmk := mkD wd (m + 1) (by omega)
      rw [show ((m + 1 : Nat) : Int) = (m : Int) + 1 from rfl] at hmk
      have hda := DAt.start (w := wd) (te := 66) (ts := 61) (enc := nodeV) (w' := wd.alloc (.cells (Array.replicate (m + 1) (Value.slice none 0 0)) 61 (0, 0))) (lo := wd.heap.size + 1) (m := m + 1) (heap_new wd _) ⟨by omega, by simp⟩
      rw [← byDeg_zero G.ids (nbo G)] at hda
      have hkd := (Keep.refl (fun _ => False) wd).alloc (.cells (Array.replicate (m + 1) (Value.slice none 0 0)) 61 (0, 0))
      have HDA := Lib.hid hda
      have HKD := Lib.hid hkd
      have HC' := Lib.hid (show ColAt wd w2.heap.size (degs (nbo G) G.ids) by have := HC.out; rwa [htn] at this)
      have HR' := Lib.hid (show RowsOf wd (w2.heap.size + 2) wd.heap.size (nbo G) G.ids kvs by have := HR.out; rwa [htn] at this)
      have HMX' := Lib.hid (show ∀ u ∈ G.ids, (nbo G u).length ≤ m by have := HMX.out; rwa [htn] at this)
      clear HC HR HMX hda hkd htn
      go_wp2_with fail
      clear hmk hmm hm2
      go_loopw [64] (fun i ws => ∃ (j : Nat) (cs : Array Value), i = .int .i64 (j : Int) ∧ j ≤ k ∧ DAt 66 61 nodeV ws wd.heap.size (wd.heap.size + 1) (byDeg G.ids (nbo G) (m + 1) j) cs (.slice none 0 0) ∧ Keep (fun _ => False) wd ws) (fun i _ => k - (intOf i).toNat)
      case atStart => exact ⟨0, _, rfl, Nat.zero_le _, HDA.out, HKD.out⟩
      case round =>
        rename World => ws
        obtain ⟨j, cs, rfl, hjk, hda, hkd⟩ := hrel
        clear HDA HKD
        have HDA := Lib.hid hda
        have HKD := Lib.hid hkd
        clear hda hkd
        by_cases hjt : j < k
        · skip
          --<
          as_aux_lemma =>
          obtain ⟨b, off, u, rfl, hu, _, hcc⟩ := HCELL.out j (by rw [HNN.out]; exact hjt)
          have c0 := hcc _ _ (HK.out.trans HKD.out (fun b hb h => h.elim)) (fun b hb => by omega)
          have HG := Lib.hid (kget_degs (N := nbo G) (List.mem_of_getElem? hu))
          have hul := HMX'.out u (List.mem_of_getElem? hu)
          obtain ⟨l, hl, hst⟩ := byDeg_step (N := nbo G) (m := m + 1) hu (by omega)
          have hll := byDeg_le hl
          rw [HNN.out] at hll
          obtain ⟨a, cap, hv, hcv, hrow⟩ := HDA.out.at_ hl
          have hfz := HDA.out.free
          have HUU := Lib.hid hu
          have HL := Lib.hid hl
          have HST := Lib.hid hst
          have HV := Lib.hid hv
          have hrow0 := (owns_lift (b' := 0) hrow (fun _ _ => Nat.zero_le _)).alloc (.cells #[nodeV u] 66 (0, 0))
          have HROW := Lib.hid hrow0
          generalize hln : l.length = n at *
          have HLN := Lib.hid hln
          clear hcc hu hl hst hv hrow hrow0 hln
          obtain ⟨i0, hi0, hz0, hz1, hz2⟩ := info_parts infoNode
          go_wp2_with (first
            | (((with_reducible refine (ID_spec _ _).mono ?_); rintro e w3 ⟨rfl, rfl⟩))
            | (at_lookup; refine wpList_lookup_kv rfl _ _ _ _ rfl 2 3 Tryz.underlying83 Tryz.underlying2 (.int .i64 0) zeroI w2.heap.size _ u rfl rfl (HC'.out.keepF HKD.out) ?_; rw [HG.out])
            | (at_builtin; refine wpList_append_own' rfl rfl 66 i0 _ 1 16 Tryz.underlying61 hi0 hz0 hz1 hz2 rfl (by decide) (.slice a n cap) n _ rfl HROW.out ⟨_, 0, none⟩ 1 1 [nodeV u] rfl rfl (World.news_of_block (heap_new _ _)) (by simp [Value.oneCell']) (by decide) (by unfold maxLen; omega) (by omega) ?_; intro g5 cap5 w5 q1 q2 q3 q4; obtain ⟨c5, f5⟩ := HDA.out.after HV.out q2; have HQ1 := Lib.hid q1; have HQ2 := Lib.hid q2; have HQ3 := Lib.hid q3; clear q1 q2 q3))
          have hda5 := HDA.out.push (u := u) HV.out HLN.out HQ1.out HQ2.out HQ3.out (fun g h => by cases h)
          rw [HST.out] at hda5
          refine ⟨⟨j + 1, _, by go_num, by omega, hda5, ?_⟩, by simp [intOf]; omega⟩
          exact ((HKD.out.alloc _).trans HQ2.out (fun b hb h => by have := (HDA.out.own_lt HV.out h).1; omega)).setCell _ (fun h => by have h : wd.heap.size < wd.heap.size := h; omega)
          -->
        · obtain rfl : j = k := by omega
          have hda1 : DAt 66 61 nodeV (ws.alloc (.cells #[.int .i64 0] 3 (0, 0))) wd.heap.size (wd.heap.size + 1) (byDeg G.ids (nbo G) (m + 1) G.ids.length) cs (.slice none 0 0) := by
            rw [HNN.out]; exact HDA.out.keepF ((Keep.refl _ ws).alloc _)
          have hwl := HDA.out.low.2
          have hds : DS G wd w2.heap.size (m + 1) (ws.alloc (.cells #[.int .i64 0] 3 (0, 0))) (degs (nbo G) G.ids) (byDeg G.ids (nbo G) (m + 1) G.ids.length) cs (.slice none 0 0) (.slice (some ⟨ws.heap.size, 0, none⟩) 1 1) [] 0 :=
            ⟨HC'.out.keepF (HKD.out.alloc _), hda1, World.ownsRow_nil _ _ _ _, ⟨[0], by simp, .inr ⟨ws.heap.size, 1, #[.int .i64 0], rfl, hwl, heap_new ws _, by omega, by unfold maxLen; omega, rfl, rfl⟩⟩,
              (HKD.out.mono (fun _ _ h => h.elim)).alloc _, by omega, fun u hu => by simp at hu, byDeg_length _ _ _ _⟩
          have hinv : DInv G.ids (nbo G) (degs (nbo G) G.ids) (byDeg G.ids (nbo G) (m + 1) G.ids.length) [] := DInv.start HND.out (cget_degs _ _) (fun u hu => by have := HMX'.out u hu; omega)
          have hcl : (degs (nbo G) G.ids).length = j := by rw [degs_length, HNN.out]
          have HDS := Lib.hid hds
          have HINV := Lib.hid hinv
          have HCL := Lib.hid hcl
          clear hda1 hds hinv hcl HDA HKD
          go_wp2_with fail
          go_loopg [2, 3, 16, 86] (j + 1) (fun gk lv sv kk q wr => ∃ (i k' : Nat) (C : PC) (D : List (List Int)) (cs : Array Value) (ord : List Int), q = .int .i64 (i : Int) ∧ i + gk = j + 1 ∧ i ≤ j ∧ kk = .int .i64 (k' : Int) ∧ k' ≤ 1000 ∧ ord.length = i ∧ C.length + i = j ∧ DS G wd w2.heap.size (m + 1) wr C D cs lv sv ord k' ∧ DInv G.ids (nbo G) C D [])
          case atStart => exact ⟨0, 0, _, _, cs, [], rfl, by omega, Nat.zero_le _, rfl, by omega, rfl, HCL.out, HDS.out, HINV.out⟩
          case round =>
            rename World => wm
            obtain ⟨i, k', C, D, cs2, ord, rfl, hgk, hij, rfl, hk1, hol, hcl, hds, hinv⟩ := hrel
            have HGK := Lib.hid hgk
            clear hgk
            generalize gk = g0 at *
            clear HDS HINV HCL
            have HDS := Lib.hid hds
            have HINV := Lib.hid hinv
            have HOL := Lib.hid hol
            have HCL := Lib.hid hcl
            clear hds hinv hol hcl
            by_cases hit : i < j
            · have hex : ∃ (x : Nat) (l : List Int), D[x]? = some l ∧ l ≠ [] := HINV.out.some' (fun e => by have := HCL.out; rw [e] at this; simp at this; omega) HDS.out.col.nodup
              have hdl := HDS.out.len
              have HEX := Lib.hid hex
              have HDL := Lib.hid hdl
              clear hex hdl
              go_wp2_with fail
              go_loopw [17, 18, 90] (fun a b q wr => wr = wm ∧ ∃ x : Nat, q = .int .i64 (x : Int) ∧ x ≤ m + 1 ∧ ∀ (y : Nat) l, y < x → D[y]? = some l → l = []) (fun a b q _ => m + 1 - (intOf q).toNat)
              case atStart => exact ⟨rfl, 0, rfl, Nat.zero_le _, fun y l h => absurd h (Nat.not_lt_zero _)⟩
              case round =>
                obtain ⟨rfl, x, rfl, hxm, hall⟩ := hrel
                have HALL := Lib.hid hall
                clear hall
                by_cases hx : x < m + 1
                · obtain ⟨lx, hlx⟩ : ∃ lx, D[x]? = some lx := ⟨_, List.getElem?_eq_getElem (by rw [HDL.out]; exact hx)⟩
                  rcases List.eq_nil_or_concat lx with rfl | ⟨l0, v, rfl⟩
                  · obtain ⟨a, cap, hv, hcv, hrow⟩ := HDS.out.dat.at_ hlx
                    have HLX := Lib.hid hlx
                    clear hlx hv hrow
                    go_wp2_with fail
                    refine ⟨⟨by trivial, x + 1, by go_num, by omega, fun y l hy hl => ?_⟩, by simp [intOf]; omega⟩
                    rcases Nat.lt_succ_iff_lt_or_eq.1 hy with h | rfl
                    · exact HALL.out y l h hl
                    · have := HLX.out; rw [hl] at this; exact Option.some.inj this
                  · rw [List.concat_eq_append] at hlx
                    clear HALL HEX
                    have hrl := dinv_row_le HINV.out hlx
                    rw [HNN.out, List.length_append] at hrl
                    simp only [List.length_cons, List.length_nil] at hrl
                    obtain ⟨gv, capv, hv, hcv, hcl, hcap, hgne⟩ := HDS.out.last hlx
                    have hll := HDS.out.len
                    have HLX := Lib.hid hlx
                    have HV := Lib.hid hv
                    have HHCL := Lib.hid hcl
                    have hfz := HDS.out.dat.free
                    have HFZ := Lib.hid hfz
                    clear hlx hv hll hfz hcl
                    generalize hn0 : l0.length = n0 at *
                    have HN0 := Lib.hid hn0
                    clear hn0
                    obtain ⟨sg, scap, rfl, hsf, hsc⟩ := HDS.out.cells
                    have hne0 : ((n0 : Int) + 1 != 0) = true := by simp; omega
                    have HSF := Lib.hid hsf
                    have HSC := Lib.hid hsc
                    clear hsf hsc
                    go_upto_if 101 with fail
                    go_cut [3, 16] from 87 to 220 (fun sv' kk' wx => ∃ k2 : Nat, kk' = .int .i64 (k2 : Int) ∧ x ≤ k2 ∧ k2 ≤ 1000 ∧ DS G wd w2.heap.size (m + 1) wx C D cs2 u2 sv' ord k2)
                    case first =>
                      --<
                      as_aux_lemma =>
                      obtain ⟨xs, hxs⟩ := HDS.out.svr
                      have HXS := Lib.hid hxs
                      have hlow := HDS.out.dat.low.2
                      clear hxs
                      go_wp2_with (first
                        | (at_builtin; refine wpList_zeros rfl rfl (wd.heap.size + 1) infoInt' Tryz.underlying22 Tryz.underlying3 rfl rfl (by omega) sg (k' + 1) scap (x - k') _ .i64 _ rfl rfl (by omega) HXS.out (by omega) hlow (by omega) ?_; intro g6 cap6 w6 q1 q2 q3; rw [show k' + 1 + (x - k') = x + 1 by omega] at q1; rw [show k' + 1 + (x - k') = x + 1 by omega]; have HQ1 := Lib.hid q1; have HQ2 := Lib.hid q2; clear q1 q2))
                      all_goals go_meet
                      all_goals first
                        | exact ⟨k', rfl, by omega, hk1, HDS.out⟩
                        | (refine ⟨x, rfl, Nat.le_refl _, by omega, HDS.out.sv' (HQ2.out.mono (fun b _ h => by rw [h]; rfl)) ⟨xs ++ List.replicate (x - k') 0, ?_⟩⟩
                           rw [List.map_append, List.map_replicate]; exact HQ1.out)
                      -->
                    case rest =>
                      obtain ⟨k2, rfl, hxk, hk2, hds⟩ := hcut
                      clear HDS HHCL HSF HSC HFZ hcv
                      rename World => wc
                      obtain ⟨gv2, capv2, hv2, hcv2, hcl2, hcap2, hgne2⟩ := hds.last HLX.out
                      rw [HN0.out] at hv2 hcv2 hcl2
                      rw [HV.out] at hv2
                      cases hv2
                      have hfz2 := hds.dat.free
                      have HDS := Lib.hid hds
                      clear hds
                      go_upto_region 37 with fail
                      go_cut [19] from 87 to 220 (fun nv wx => nv = nodeV v ∧ DS G wd w2.heap.size (m + 1) wx C (D.set x l0) (cs2.setIfInBounds x (.slice (some ⟨gv, 0, none⟩) n0 capv)) u2 u3 ord k2)
                      case first =>
                        --<
                        as_aux_lemma =>
                        go_region
                        all_goals (go_wp2_with fail)
                        all_goals go_meet
                        all_goals exact ⟨rfl, (HDS.out.pop HLX.out HN0.out HV.out).keepF (by repeat first | exact Keep.refl _ _ | apply Keep.drew)⟩
                        -->
                      case rest =>
                        obtain ⟨rfl, hds⟩ := hcut
                        clear HDS
                        have hcd : (cdel C v).length + 1 = C.length := cdel_len hds.col.nodup ((HINV.out.at' v x).2 ⟨_, HLX.out, by simp⟩)
                        have HCD := Lib.hid hcd
                        clear hcd
                        have hvi : v ∈ G.ids := dinv_row_mem HINV.out HLX.out v (by simp)
                        have hpop := HINV.out.pop HLX.out (nbo_symm HU.out)
                        have HPOP := Lib.hid hpop
                        obtain ⟨vv, gn, hkv, hnr, hgn1, hgn2⟩ := HR'.out v hvi
                        obtain ⟨an, cn, rfl⟩ := hnr.slice
                        have hnl := HLEN.out v hvi
                        have HNR := Lib.hid hnr
                        have HKV := Lib.hid hkv
                        have how := hds.ow
                        rw [HOL.out] at how
                        obtain ⟨la, lcap, rfl⟩ := owns_slice how
                        obtain ⟨sg2, scap2, rfl, _, _⟩ := hds.cells
                        have how0 := (owns_lift (b' := 0) how (fun _ _ => Nat.zero_le _)).alloc (.cells #[nodeV v] 66 (0, 0))
                        have HOW := Lib.hid how0
                        have HVI := Lib.hid hvi
                        have HDS := Lib.hid hds
                        clear hds hpop hkv hnr how how0 hvi HINV HLX
                        rename World => wp
                        obtain ⟨i0, hi0, hz0, hz1, hz2⟩ := info_parts infoNode
                        go_wp2_with (first
                          | (at_builtin; refine wpList_append_own' rfl rfl 66 i0 _ 1 16 Tryz.underlying61 hi0 hz0 hz1 hz2 rfl (by decide) (.slice la i lcap) i _ rfl HOW.out ⟨_, 0, none⟩ 1 1 [nodeV v] rfl rfl (World.news_of_block (heap_new _ _)) (by simp [Value.oneCell']) (by decide) (by unfold maxLen; omega) (by omega) ?_; intro g7 cap7 w7 q1 q2 q3 q4; have hds7 := HDS.out.lpush HVI.out HOL.out q1 q2 q3; obtain ⟨f7, sc7⟩ := hds7.scell; obtain ⟨x7, c7⟩ := sc7 k2 (by omega); have HDS7 := Lib.hid hds7; clear hds7 sc7 q1 q2 q3)
                          | (((with_reducible refine (ID_spec _ _).mono ?_); rintro e w3 ⟨rfl, hw3⟩); subst hw3)
                          | (at_delete; refine wpList_delete_kv rfl _ _ _ _ rfl 2 3 Tryz.underlying83 Tryz.underlying2 w2.heap.size _ v rfl rfl (show MapAt _ _ (ckv C) from (HDS7.out.stored).col) ?_; intro w8 q1 q2 q3 q4; rw [kdel_ckv] at q1; have hds8 := (HDS7.out.stored).col' q1 q3; have HDS8 := Lib.hid hds8; have hm8 := HM.out.keep hds8.keep (by omega); have HM8 := Lib.hid hm8; clear hds8 hm8 q1 q2 q3)
                          | (at_lookup; refine wpList_lookup_kv rfl _ _ _ _ rfl 2 61 Tryz.underlying265 Tryz.underlying2 (.slice none 0 0) zeroSN (w2.heap.size + 1) _ v rfl rfl HM8.out ?_; rw [HKV.out]))
                        clear HDS HDS7 HOW HM8 HM c7 f7 HKV hcl2 hcv2
                        go_loopg [142] ((nbo G v).length + 1) (fun gk q wr => ∃ (t : Nat) (C : PC) (D : List (List Int)) (cs : Array Value), q = .int .i64 (t : Int) ∧ t + gk = (nbo G v).length + 1 ∧ t ≤ (nbo G v).length ∧ DS G wd w2.heap.size (m + 1) wr C D cs (.slice (some ⟨g7, 0, none⟩) (i + 1) cap7) (.slice (some ⟨sg2, 0, none⟩) (k2 + 1) scap2) (ord ++ [v]) k2 ∧ DInv G.ids (nbo G) C D ((nbo G v).drop t) ∧ C.length + (i + 1) = j)
                        case atStart => exact ⟨0, _, _, _, rfl, by omega, Nat.zero_le _, HDS8.out, HPOP.out, by have := HCD.out; have := HCL.out; omega⟩
                        case round =>
                          obtain ⟨t, C5, D5, cs5, rfl, hgt, htl, hds, hinv, hcl5⟩ := hrel
                          clear HDS8 HPOP HCD HCL
                          rename World => wt
                          have HDS := Lib.hid hds
                          have HINV := Lib.hid hinv
                          have HGT := Lib.hid hgt
                          have HCL := Lib.hid hcl5
                          have hnr5 := HNR.out.keep hds.keep (by omega)
                          clear hgt hcl5 hinv
                          by_cases htt : t < (nbo G v).length
                          · obtain ⟨u, hu⟩ : ∃ u, (nbo G v)[t]? = some u := ⟨_, List.getElem?_eq_getElem htt⟩
                            obtain ⟨off5, rfl, hc5⟩ := hnr5.node.2 t u hu
                            have hdr := drop_cons' hu
                            have hnd5 : u ∉ (nbo G v).drop (t + 1) := by
                              have := (nbo_nodup HU.out.ok HVI.out).sublist (List.drop_sublist t (nbo G v))
                              rw [hdr] at this
                              exact (List.nodup_cons.1 this).1
                            have HDR := Lib.hid hdr
                            have HND5 := Lib.hid hnd5
                            clear hu hdr hnd5 hnr5 hds
                            cases hcg : cget C5 u with
                            | none =>
                              --<
                              as_aux_lemma =>
                              have HG := Lib.hid (show kget (ckv C5) u = none by rw [kget_ckv, hcg]; rfl)
                              have HCG := Lib.hid hcg
                              clear hcg
                              go_wp2_with (first
                                | (((with_reducible refine (ID_spec _ _).mono ?_); rintro e w3 ⟨rfl, hw3⟩); subst hw3)
                                | (at_lookup; refine wpList_lookup_kv rfl _ _ _ _ rfl 2 3 Tryz.underlying83 Tryz.underlying2 (.int .i64 0) zeroI w2.heap.size _ u rfl rfl HDS.out.col ?_; rw [HG.out]))
                              go_roundg (gk - 1)
                              case measure => have := HGT.out; omega
                              case rel => exact ⟨t + 1, C5, D5, cs5, by go_num, by have := HGT.out; omega, by omega, HDS.out, by have := HINV.out; rw [HDR.out] at this; exact this.skip HCG.out, HCL.out⟩
                              -->
                            | some dw =>
                              have hinv' : DInv G.ids (nbo G) C5 D5 (u :: (nbo G v).drop (t + 1)) := by have := HINV.out; rwa [HDR.out] at this
                              obtain ⟨l, hl, hum⟩ := (hinv'.at' u dw).1 hcg
                              obtain ⟨y0, hy0⟩ := List.mem_iff_getElem?.1 hum
                              obtain ⟨nl, hnl⟩ : ∃ nl, l.length = nl + 1 := ⟨l.length - 1, by have := List.length_pos_of_mem hum; omega⟩
                              have hmove := fun (y : Nat) (hy : l[y]? = some u) => hinv'.move HND5.out hcg hl hy
                              obtain ⟨k1, mm, hk1e, hmm0, _⟩ := hmove y0 hy0
                              subst hk1e
                              have hlle := dinv_row_le hinv' hl
                              have hmle := dinv_row_le hinv' hmm0
                              rw [HNN.out, hnl] at hlle
                              rw [HNN.out] at hmle
                              obtain ⟨g5, cap5, hv5, hcv5, hcc5, hf5, hcap5, hgne5⟩ := HDS.out.row hl hnl
                              have hdwl : k1 + 1 < m + 1 := by rw [← HDS.out.len]; exact (List.getElem?_eq_some_iff.1 hl).1
                              have hfz5 := HDS.out.dat.free
                              have HG := Lib.hid (show kget (ckv C5) u = some (.int .i64 ((k1 + 1 : Nat) : Int)) by rw [kget_ckv, hcg]; rfl)
                              have HCPL := Lib.hid (fun x => cput_len (x := x) hcg)
                              have HMOVE := Lib.hid hmove
                              have HL := Lib.hid hl
                              have HNL := Lib.hid hnl
                              have HY0 := Lib.hid hy0
                              have HMM := Lib.hid hmm0
                              have HV5 := Lib.hid hv5
                              have HCC5 := Lib.hid hcc5
                              have HF5 := Lib.hid hf5
                              have HFZ5 := Lib.hid hfz5
                              clear hinv' hl hum hy0 hnl hmove hmm0 hcg hv5 hcc5 hf5 hfz5 HINV
                              go_wp2_with (first
                                | (((with_reducible refine (ID_spec _ _).mono ?_); rintro e w3 ⟨rfl, hw3⟩); subst hw3)
                                | (at_lookup; refine wpList_lookup_kv rfl _ _ _ _ rfl 2 3 Tryz.underlying83 Tryz.underlying2 (.int .i64 0) zeroI w2.heap.size _ u rfl rfl HDS.out.col ?_; rw [HG.out]))
                              generalize gk = g1 at *
                              rename World => wq
                              go_loopw [22, 160] (fun a q wr => wr = wq ∧ a = .int .i64 ((k1 : Int) + 1) ∧ ∃ y : Nat, q = .int .i64 (y : Int) ∧ y ≤ nl + 1 ∧ ∀ y', y' < y → l[y']? ≠ some u) (fun a q _ => nl + 1 - (intOf q).toNat)
                              case atStart => exact ⟨rfl, rfl, 0, rfl, Nat.zero_le _, fun y h => absurd h (Nat.not_lt_zero _)⟩
                              case round =>
                                obtain ⟨rfl, rfl, y, rfl, hyl, hnone⟩ := hrel
                                have HNONE := Lib.hid hnone
                                clear hnone
                                by_cases hy : y < nl + 1
                                · obtain ⟨z, hz⟩ : ∃ z, l[y]? = some z := ⟨_, List.getElem?_eq_getElem (by rw [HNL.out]; exact hy)⟩
                                  have hcz := HCC5.out y z hz
                                  by_cases hzu : u = z
                                  · obtain rfl := hzu
                                    obtain ⟨yl, hyl2⟩ : ∃ yl, l[nl]? = some yl := ⟨_, List.getElem?_eq_getElem (by rw [HNL.out]; omega)⟩
                                    have hcl6 := HCC5.out nl yl hyl2
                                    have hf5 := HF5.out
                                    have hfz5 := HFZ5.out
                                    have HZ := Lib.hid hz
                                    have HYL := Lib.hid hyl2
                                    clear hz hyl2 HNONE
                                    go_upto_region 50 with (((with_reducible refine (ID_spec _ _).mono ?_); rintro e w3 ⟨rfl, hw3⟩); subst hw3)
                                    go_cut [] from 161 to 214 (fun wx => DS G wd w2.heap.size (m + 1) wx C5 (D5.set (k1 + 1) (Go.V.strike l y)) (cs5.setIfInBounds (k1 + 1) (.slice (some ⟨g5, 0, none⟩) nl cap5)) (.slice (some ⟨g7, 0, none⟩) (i + 1) cap7) (.slice (some ⟨sg2, 0, none⟩) (k2 + 1) scap2) (ord ++ [v]) k2)
                                    case first =>
                                      go_region
                                      all_goals (go_wp2_with fail)
                                      all_goals go_meet
                                      all_goals exact (HDS.out.strike HL.out HZ.out HYL.out HNL.out HV5.out).keepF (by repeat first | exact Keep.refl _ _ | apply Keep.drew)
                                    case rest =>
                                      obtain ⟨k1', mm', e1, hmm6, hinv6⟩ := HMOVE.out y HZ.out
                                      obtain rfl : k1' = k1 := by omega
                                      have hmm7 : (D5.set (k1' + 1) (Go.V.strike l y))[k1']? = some mm' := by rw [List.getElem?_set_ne (by omega)]; exact hmm6
                                      have hmle7 : mm'.length ≤ j := by have := HMM.out; rw [hmm6] at this; cases this; exact hmle
                                      clear HDS hcv5 hcz hcl6 hf5 hfz5 HF5 HFZ5 HCC5
                                      rename World => wz
                                      obtain ⟨a6, cap6, hv6, hcv6, hrow6⟩ := hcut.dat.at_ hmm7
                                      have hfz6 := hcut.dat.free
                                      have hrow0 := (owns_lift (b' := 0) hrow6 (fun _ _ => Nat.zero_le _)).alloc (.cells #[nodeV u] 66 (0, 0))
                                      have HROW := Lib.hid hrow0
                                      have HV6 := Lib.hid hv6
                                      have HDS6 := Lib.hid hcut
                                      have HINV6 := Lib.hid hinv6
                                      generalize hml : mm'.length = ml at *
                                      have HML := Lib.hid hml
                                      clear hrow6 hrow0 hv6 hcut hinv6 hmm6 hmm7 hml e1 HMOVE
                                      go_wp2_with (first
                                        | (at_builtin; refine wpList_append_own' rfl rfl 66 i0 _ 1 16 Tryz.underlying61 hi0 hz0 hz1 hz2 rfl (by decide) (.slice a6 ml cap6) ml _ rfl HROW.out ⟨_, 0, none⟩ 1 1 [nodeV u] rfl rfl (World.news_of_block (heap_new _ _)) (by simp [Value.oneCell']) (by decide) (by unfold maxLen; omega) (by omega) ?_; intro g9 cap9 w9 q1 q2 q3 q4; obtain ⟨c9, f9⟩ := HDS6.out.dat.after HV6.out q2; have hds9 := HDS6.out.push (u := u) HV6.out HML.out q1 q2 q3; have HDS9 := Lib.hid hds9; clear hds9 q1 q2 q3)
                                        | (((with_reducible refine (ID_spec _ _).mono ?_); rintro e w3 ⟨rfl, hw3⟩); subst hw3)
                                        | (at_mapUpdate; refine wpList_update_kv rfl _ _ _ _ rfl 2 3 Tryz.underlying83 Tryz.underlying2 w2.heap.size _ u (.int .i64 (k1' : Int)) rfl rfl rfl (show MapAt _ _ (ckv C5) from HDS9.out.col) ?_; intro w10 q1 q2 q3; rw [kput_ckv] at q1; have hds10 := HDS9.out.col' q1 q2; have HDS10 := Lib.hid hds10; clear hds10 q1 q2 q3))
                                      go_roundg (g1 - 1)
                                      case measure => have := HGT.out; omega
                                      case rel => exact ⟨t + 1, _, _, _, by go_num, by have := HGT.out; omega, by omega, HDS10.out, HINV6.out, by rw [HCPL.out]; exact HCL.out⟩
                                  · skip
                                    --<
                                    as_aux_lemma =>
                                    have hne6 : (z == u) = false := by simpa using fun e => hzu e.symm
                                    have HZ := Lib.hid hz
                                    clear hz
                                    go_wp2_with (first
                                      | (((with_reducible refine (ID_spec _ _).mono ?_); rintro e w3 ⟨rfl, hw3⟩); subst hw3))
                                    refine ⟨⟨by trivial, by first | rfl | trivial, y + 1, by go_num, by omega, fun y' hy' e => ?_⟩, by simp [intOf]; omega⟩
                                    rcases Nat.lt_succ_iff_lt_or_eq.1 hy' with h | rfl
                                    · exact HNONE.out y' h e
                                    · rw [HZ.out] at e; cases e; exact hzu rfl
                                    -->
                                · exact absurd HY0.out (HNONE.out y0 (by have := (List.getElem?_eq_some_iff.1 HY0.out).1; rw [HNL.out] at this; omega))
                          · skip
                            --<
                            as_aux_lemma =>
                            obtain rfl : t = (nbo G v).length := by omega
                            go_wp2_with fail
                            go_roundg (g0 - 1)
                            case measure => have := HGK.out; omega
                            case rel =>
                              refine ⟨i + 1, k2, C5, D5, cs5, ord ++ [v], by go_num, by have := HGK.out; omega, by omega, rfl, hk2, by simp [HOL.out], HCL.out, HDS.out, ?_⟩
                              have := HINV.out
                              rwa [List.drop_length] at this
                            -->
                · obtain rfl : x = m + 1 := by omega
                  obtain ⟨y, l, hy, hne⟩ := HEX.out
                  exact absurd (HALL.out y l (by rw [← HDL.out]; exact (List.getElem?_eq_some_iff.1 hy).1) hy) hne
            · skip
              --<
              as_aux_lemma =>
              obtain rfl : i = j := by omega
              obtain ⟨gl, hnr, hgl⟩ := NRow.of_owns HDS.out.ow (by have := HOL.out; omega)
              have hmem := HDS.out.mem
              have hkk := HDS.out.keep
              have HNR := Lib.hid hnr
              have HMEM := Lib.hid hmem
              have HKK := Lib.hid hkk
              clear hnr hmem hkk HDS HINV HCELL HFR
              go_wp2_with fail
              go_ret2
              refine ⟨_, _, gl, ord, rfl, HNR.out, ?_, by rw [HNN.out]; exact HOL.out, HMEM.out, ?_⟩
              · have := HK2.out.size; have := HK.out.size; omega
              · exact (HK2.out.trans HK.out (fun b hb e => by have := HK2.out.size; omega)).trans HKK.out (fun b hb e => by have := HK2.out.size; omega)
              -->
end Go.Proofs.YtdaccgelmcmfjaaGreatDoor
