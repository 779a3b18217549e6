/- The drawn regions of the products that lay one edge: written by gen_join.py. -/
import Derived.Test.YtpjaeilkjglfhaaGreatJP1
set_option linter.all false
namespace Go.Proofs.YtpjaeilkjglfhaaGreat
open Go.RowKit Go.V
noncomputable def ops_lexP : Array Oper := (Tryz.f151.body.bind (regionOf 20)).getD #[]
theorem putAll_lexP (f : Nat → Value) (a : Act) : putAll ops_lexP f 31 a = (((((((((((((((((((((((((((((((a.put (some 86) (f 0)).put (some 87) (f 1)).put (some 88) (f 2)).put (some 89) (f 3)).put (some 90) (f 4)).put (some 91) (f 5)).put (some 92) (f 6)).put (some 93) (f 7)).put (some 94) (f 8)).put (some 95) (f 9)).put (some 96) (f 10)).put (some 97) (f 11)).put (some 98) (f 12)).put (some 99) (f 13)).put (some 100) (f 14)).put (some 101) (f 15)).put (some 102) (f 16)).put (some 103) (f 17)).put (some 104) (f 18)).put (some 105) (f 19)).put (some 106) (f 20)).put (some 107) (f 21)).put (some 108) (f 22)).put (some 109) (f 23)).put (some 110) (f 24)).put (some 111) (f 25)).put (some 112) (f 26)).put (some 113) (f 27)).put (some 114) (f 28)).put (some 115) (f 29)).put (some 116) (f 30)) := by kernel_rfl
set_option maxHeartbeats 8000000 in
set_option maxRecDepth 20000 in
theorem lexP_region {id : Nat} {w0 : World} {a0 : Act} {Q : Exit → Act → World → Prop} {bb lo gp d nA nB N q1 q2 h i px py s : Nat} {A B : List Int} {p1 p2 : Int × Int} {ns : List (Int × Int)} {nv ev : Value} {es : List Lnk}
    (hsz : a0.tmps.size = 168) (h0 : a0.eval (.tmp 0) = .iface 97 (.pointer (some ⟨bb, 0, none⟩))) (h8 : a0.eval (.tmp 8) = .slice (some ⟨gp, 0, none⟩) N N) (h13 : a0.eval (.tmp 13) = twoV d) (h15 : a0.eval (.tmp 15) = .int .i64 (i : Int)) (h18 : a0.eval (.tmp 18) = .int .i64 (h : Int)) (h14 : a0.eval (.tmp 14) = twoV s)
    (hbd : Bd w0 bb lo (pairsOf A B) nv ns ev es) (hlo : lo ≤ w0.heap.size) (hes : es.length ≤ 100000) (hP : PAt w0 gp A B N) (hd : Two w0 d nA nB) (hA : nA ≤ 1000) (hB : nB ≤ 1000) (htw : Two w0 s (px : Int) (py : Int))
    (hx1 : i < nA) (hy1 : px < nB) (hq1 : i * nB + px = q1) (hN1 : q1 < N) (hp1 : (pairsOf A B)[q1]? = some p1) (hi1 : (pairsOf A B).idxOf p1 = q1)
    (hx2 : h < nA) (hy2 : py < nB) (hq2 : h * nB + py = q2) (hN2 : q2 < N) (hp2 : (pairsOf A B)[q2]? = some p2) (hi2 : (pairsOf A B).idxOf p2 = q2)
    (hQ : ∀ f v w, (∃ ev', Bd w bb lo (pairsOf A B) nv ns ev' (es ++ [(p1, p2)]) ∧ (ev'.ownBlock = ev.ownBlock ∨ ∃ g, ev'.ownBlock = some g ∧ w0.heap.size ≤ g) ∧ Keep (fun b => b = bb ∨ ev.ownBlock = some b) w0 w) → Q .normal ((putAll ops_lexP f 31 a0).put (some 117) v) w) :
    (Code.region id ops_lexP true).wp Tryz.prog Q a0 w0 := by
  generalize hops : ops_lexP = ops at *
  conv at hops =>
    lhs
    whnf
  subst hops
  have hpn1 : pnI q1 p1 = pn (pairsOf A B) p1 := by unfold pn; rw [hi1]
  have hpn2 : pnI q2 p2 = pn (pairsOf A B) p2 := by unfold pn; rw [hi2]
  refine wp_region_K (by kernel_rfl) [.eq (.iface 97 (.pointer (some ⟨bb, 0, none⟩))), .eq (.iface 97 (.pointer (some ⟨bb, 0, none⟩))), .eq (.slice (some ⟨gp, 0, none⟩) N N), .eq (.int .i64 (i : Int)), .eq (twoV s), .eq (.pointer (some ⟨s, 0, none⟩)), .eq (.int .i64 (px : Int)), .two i px, .eq (twoV d), .eq (.int .i64 (q1 : Int)), .eq (.pointer (some ⟨gp, q1 * 3, none⟩)), .eq (pnA q1 p1), .eq (pn (pairsOf A B) p1), .eq (.slice (some ⟨gp, 0, none⟩) N N), .eq (.int .i64 (h : Int)), .eq (twoV s), .eq (.pointer (some ⟨s, 1, none⟩)), .eq (.int .i64 (py : Int)), .two h py, .eq (twoV d), .eq (.int .i64 (q2 : Int)), .eq (.pointer (some ⟨gp, q2 * 3, none⟩)), .eq (pnA q2 p2), .eq (pn (pairsOf A B) p2), .eq (.func (.method "NewEdge") #[.iface 97 (.pointer (some ⟨bb, 0, none⟩))] #[]), .eq (.func (.method "NewEdge") #[.iface 97 (.pointer (some ⟨bb, 0, none⟩))] #[]), .eq (.iface 97 (.pointer (some ⟨bb, 0, none⟩))), .eq (edgeV (pairsOf A B) (p1, p2)), .eq (.func (.method "SetEdge") #[.iface 97 (.pointer (some ⟨bb, 0, none⟩))] #[]), .eq (.func (.method "SetEdge") #[.iface 97 (.pointer (some ⟨bb, 0, none⟩))] #[]), .eq (.iface 97 (.pointer (some ⟨bb, 0, none⟩)))] 31 (by kernel_rfl) (by rw [hsz]; kernel_rfl) (by kernel_rfl) ?_ ?_
  · intro j hj a w hk hs hv
    replace hs : ∀ t, isDst _ t = false → a.eval (.tmp t) = a0.eval (.tmp t) := hs
    obtain ⟨r, rfl⟩ : ∃ r, r = j := ⟨_, rfl⟩
    match r, hj, hv with
    | 0, _, hv =>
      have e0 := (hs 0 (by kernel_rfl)).trans h0
      exact OwesK.move rfl rfl (.inl rfl) e0 rfl
    | 1, _, hv =>
      have e0 := (hs 0 (by kernel_rfl)).trans h0
      exact OwesK.move rfl rfl (.inl rfl) e0 rfl
    | 2, _, hv =>
      have e8 := (hs 8 (by kernel_rfl)).trans h8
      exact OwesK.move rfl rfl (.inl rfl) e8 rfl
    | 3, _, hv =>
      have e15 := (hs 15 (by kernel_rfl)).trans h15
      exact OwesK.move rfl rfl (.inl rfl) e15 rfl
    | 4, _, hv =>
      have e14 := (hs 14 (by kernel_rfl)).trans h14
      exact OwesK.move rfl rfl (.inl rfl) e14 rfl
    | 5, _, hv =>
      have e90 : a.eval (.tmp 90) = twoV s := hv 4 (oD (by kernel_rfl))
      exact OwesK.iaddr (y := .int .i64 0) rfl rfl rfl e90 rfl (ia20 s w) rfl
    | 6, _, hv =>
      have e91 : a.eval (.tmp 91) = .pointer (some ⟨s, 0, none⟩) := hv 5 (oD (by kernel_rfl))
      have hct := (htw.keepF hk).cells
      exact OwesK.load rfl rfl rfl e91 (ldI hct.1) rfl
    | 7, _, hv =>
      have e89 : a.eval (.tmp 89) = .int .i64 (i : Int) := hv 3 (oD (by kernel_rfl))
      have e92 : a.eval (.tmp 92) = .int .i64 (px : Int) := hv 6 (oD (by kernel_rfl))
      exact OwesK.two (t := 0) rfl rfl rfl e89 e92 hk.size (bs2 _ _ w) rfl rfl
    | 8, _, hv =>
      have e13 := (hs 13 (by kernel_rfl)).trans h13
      exact OwesK.move rfl rfl (.inl rfl) e13 rfl
    | 9, _, hv =>
      obtain ⟨b93, e93, m93, _⟩ : ∃ b, a.eval (.tmp 93) = twoV b ∧ Two w b (i : Int) (px : Int) ∧ w0.heap.size ≤ b := hv 7 (oD (by kernel_rfl))
      have e94 : a.eval (.tmp 94) = twoV d := hv 8 (oD (by kernel_rfl))
      refine OwesK.fn rfl rfl rfl rfl (args := #[twoV b93, twoV d]) (by simp only [List.map_toArray, List.map_cons, List.map_nil, e93, e94]) (cfIdx _ _ w) ((idxFor_spec m93 (hd.keepF hk) hx1 hy1 hA hB).mono ?_)
      rintro e w' ⟨rfl, rfl⟩
      refine ⟨_, rfl, ?_, Keep.refl _ _⟩
      show Value.int .i64 ((i * nB + px : Nat) : Int) = .int .i64 (q1 : Int)
      rw [hq1]
    | 10, _, hv =>
      have e88 : a.eval (.tmp 88) = .slice (some ⟨gp, 0, none⟩) N N := hv 2 (oD (by kernel_rfl))
      have e95 : a.eval (.tmp 95) = .int .i64 (q1 : Int) := hv 9 (oD (by kernel_rfl))
      exact OwesK.iaddr rfl rfl rfl e88 e95 (iaP gp _ q1 hN1 w) rfl
    | 11, _, hv =>
      have e96 : a.eval (.tmp 96) = .pointer (some ⟨gp, q1 * 3, none⟩) := hv 10 (oD (by kernel_rfl))
      exact OwesK.load rfl rfl rfl e96 (ldP (hP.keep hk (fun h => h)) hN1 hp1) rfl
    | 12, _, hv =>
      have e97 : a.eval (.tmp 97) = pnA q1 p1 := hv 11 (oD (by kernel_rfl))
      exact OwesK.mki (v := pn (pairsOf A B) p1) rfl rfl rfl e97 (by rw [← hpn1]; exact mkiP q1 p1 w) rfl
    | 13, _, hv =>
      have e8 := (hs 8 (by kernel_rfl)).trans h8
      exact OwesK.move rfl rfl (.inl rfl) e8 rfl
    | 14, _, hv =>
      have e18 := (hs 18 (by kernel_rfl)).trans h18
      exact OwesK.move rfl rfl (.inl rfl) e18 rfl
    | 15, _, hv =>
      have e14 := (hs 14 (by kernel_rfl)).trans h14
      exact OwesK.move rfl rfl (.inl rfl) e14 rfl
    | 16, _, hv =>
      have e101 : a.eval (.tmp 101) = twoV s := hv 15 (oD (by kernel_rfl))
      exact OwesK.iaddr (y := .int .i64 1) rfl rfl rfl e101 rfl (ia21 s w) rfl
    | 17, _, hv =>
      have e102 : a.eval (.tmp 102) = .pointer (some ⟨s, 1, none⟩) := hv 16 (oD (by kernel_rfl))
      have hct := (htw.keepF hk).cells
      exact OwesK.load rfl rfl rfl e102 (ldI hct.2.1) rfl
    | 18, _, hv =>
      have e100 : a.eval (.tmp 100) = .int .i64 (h : Int) := hv 14 (oD (by kernel_rfl))
      have e103 : a.eval (.tmp 103) = .int .i64 (py : Int) := hv 17 (oD (by kernel_rfl))
      exact OwesK.two (t := 0) rfl rfl rfl e100 e103 hk.size (bs2 _ _ w) rfl rfl
    | 19, _, hv =>
      have e13 := (hs 13 (by kernel_rfl)).trans h13
      exact OwesK.move rfl rfl (.inl rfl) e13 rfl
    | 20, _, hv =>
      obtain ⟨b104, e104, m104, _⟩ : ∃ b, a.eval (.tmp 104) = twoV b ∧ Two w b (h : Int) (py : Int) ∧ w0.heap.size ≤ b := hv 18 (oD (by kernel_rfl))
      have e105 : a.eval (.tmp 105) = twoV d := hv 19 (oD (by kernel_rfl))
      refine OwesK.fn rfl rfl rfl rfl (args := #[twoV b104, twoV d]) (by simp only [List.map_toArray, List.map_cons, List.map_nil, e104, e105]) (cfIdx _ _ w) ((idxFor_spec m104 (hd.keepF hk) hx2 hy2 hA hB).mono ?_)
      rintro e w' ⟨rfl, rfl⟩
      refine ⟨_, rfl, ?_, Keep.refl _ _⟩
      show Value.int .i64 ((h * nB + py : Nat) : Int) = .int .i64 (q2 : Int)
      rw [hq2]
    | 21, _, hv =>
      have e99 : a.eval (.tmp 99) = .slice (some ⟨gp, 0, none⟩) N N := hv 13 (oD (by kernel_rfl))
      have e106 : a.eval (.tmp 106) = .int .i64 (q2 : Int) := hv 20 (oD (by kernel_rfl))
      exact OwesK.iaddr rfl rfl rfl e99 e106 (iaP gp _ q2 hN2 w) rfl
    | 22, _, hv =>
      have e107 : a.eval (.tmp 107) = .pointer (some ⟨gp, q2 * 3, none⟩) := hv 21 (oD (by kernel_rfl))
      exact OwesK.load rfl rfl rfl e107 (ldP (hP.keep hk (fun h => h)) hN2 hp2) rfl
    | 23, _, hv =>
      have e108 : a.eval (.tmp 108) = pnA q2 p2 := hv 22 (oD (by kernel_rfl))
      exact OwesK.mki (v := pn (pairsOf A B) p2) rfl rfl rfl e108 (by rw [← hpn2]; exact mkiP q2 p2 w) rfl
    | 24, _, hv =>
      have e87 : a.eval (.tmp 87) = .iface 97 (.pointer (some ⟨bb, 0, none⟩)) := hv 1 (oD (by kernel_rfl))
      exact OwesK.mkf rfl rfl rfl e87 rfl
    | 25, _, hv =>
      have e110 : a.eval (.tmp 110) = .func (.method "NewEdge") #[.iface 97 (.pointer (some ⟨bb, 0, none⟩))] #[] := hv 24 (oD (by kernel_rfl))
      exact OwesK.nilc rfl rfl rfl e110 (nilB bb w) rfl
    | 26, _, hv =>
      have e87 : a.eval (.tmp 87) = .iface 97 (.pointer (some ⟨bb, 0, none⟩)) := hv 1 (oD (by kernel_rfl))
      exact OwesK.move rfl rfl (.inl rfl) e87 rfl
    | 27, _, hv =>
      have e112 : a.eval (.tmp 112) = .iface 97 (.pointer (some ⟨bb, 0, none⟩)) := hv 26 (oD (by kernel_rfl))
      have e98 : a.eval (.tmp 98) = pn (pairsOf A B) p1 := hv 12 (oD (by kernel_rfl))
      have e109 : a.eval (.tmp 109) = pn (pairsOf A B) p2 := hv 23 (oD (by kernel_rfl))
      refine OwesK.meth rfl rfl rfl rfl e112 (args := #[pn (pairsOf A B) p1, pn (pairsOf A B) p2]) (by simp only [List.map_toArray, List.map_cons, List.map_nil, e98, e109]) (cmNew bb _ _ w) ((newEdge_spec _ _ _ _ _).mono ?_)
      rintro e w' ⟨rfl, rfl⟩
      exact ⟨_, rfl, rfl, Keep.refl _ _⟩
    | 28, _, hv =>
      have e86 : a.eval (.tmp 86) = .iface 97 (.pointer (some ⟨bb, 0, none⟩)) := hv 0 (oD (by kernel_rfl))
      exact OwesK.mkf rfl rfl rfl e86 rfl
    | 29, _, hv =>
      have e114 : a.eval (.tmp 114) = .func (.method "SetEdge") #[.iface 97 (.pointer (some ⟨bb, 0, none⟩))] #[] := hv 28 (oD (by kernel_rfl))
      exact OwesK.nilc rfl rfl rfl e114 (nilS bb w) rfl
    | 30, _, hv =>
      have e86 : a.eval (.tmp 86) = .iface 97 (.pointer (some ⟨bb, 0, none⟩)) := hv 0 (oD (by kernel_rfl))
      exact OwesK.move rfl rfl (.inl rfl) e86 rfl
    | r + 31, hj, _ => exact absurd hj (by omega)
  · intro f w hk hv
    refine wpOp_meth (r := .iface 97 (.pointer (some ⟨bb, 0, none⟩))) (args := #[edgeV (pairsOf A B) (p1, p2)]) rfl rfl rfl rfl ?hr ?ha (cmSet bb _ w) ((setEdge_spec (hbd.keepF hk) (p1, p2) (Nat.le_trans hlo hk.size) hes).mono ?hc)
    case hr => exact (putAll_ev (m := 168) (by kernel_rfl) f a0 (by omega) (j := 30) (by decide) (by kernel_rfl)).trans (hv 30 (by decide))
    case ha =>
      simp only [List.map_toArray, List.map_cons, List.map_nil]
      rw [(putAll_ev (m := 168) (by kernel_rfl) f a0 (by omega) (j := 27) (by decide) (by kernel_rfl)).trans (hv 27 (by decide))]
    rintro e w' ⟨rfl, ev', r1, r2, r3⟩
    refine ⟨.tuple #[], rfl, ?_⟩
    refine hQ f (.tuple #[]) w' ⟨ev', r1, ?_, (hk.mono (fun _ _ h => h.elim)).trans r3 (fun _ _ h => h)⟩
    rcases r2 with r2 | ⟨g, r2, r4⟩
    · exact .inl r2
    · exact .inr ⟨g, r2, Nat.le_trans hk.size r4⟩
noncomputable def ops_lexB : Array Oper := (Tryz.f151.body.bind (regionOf 26)).getD #[]
theorem putAll_lexB (f : Nat → Value) (a : Act) : putAll ops_lexB f 31 a = (((((((((((((((((((((((((((((((a.put (some 134) (f 0)).put (some 135) (f 1)).put (some 136) (f 2)).put (some 137) (f 3)).put (some 138) (f 4)).put (some 139) (f 5)).put (some 140) (f 6)).put (some 141) (f 7)).put (some 142) (f 8)).put (some 143) (f 9)).put (some 144) (f 10)).put (some 145) (f 11)).put (some 146) (f 12)).put (some 147) (f 13)).put (some 148) (f 14)).put (some 149) (f 15)).put (some 150) (f 16)).put (some 151) (f 17)).put (some 152) (f 18)).put (some 153) (f 19)).put (some 154) (f 20)).put (some 155) (f 21)).put (some 156) (f 22)).put (some 157) (f 23)).put (some 158) (f 24)).put (some 159) (f 25)).put (some 160) (f 26)).put (some 161) (f 27)).put (some 162) (f 28)).put (some 163) (f 29)).put (some 164) (f 30)) := by kernel_rfl
set_option maxHeartbeats 8000000 in
set_option maxRecDepth 20000 in
theorem lexB_region {id : Nat} {w0 : World} {a0 : Act} {Q : Exit → Act → World → Prop} {bb lo gp d nA nB N q1 q2 i j k : Nat} {A B : List Int} {p1 p2 : Int × Int} {ns : List (Int × Int)} {nv ev : Value} {es : List Lnk} {it_k g_k t_k : Nat} {l_k : List Int} {u : Int} {mm : Nat} {X : List Int}
    (hsz : a0.tmps.size = 168) (h0 : a0.eval (.tmp 0) = .iface 97 (.pointer (some ⟨bb, 0, none⟩))) (h8 : a0.eval (.tmp 8) = .slice (some ⟨gp, 0, none⟩) N N) (h13 : a0.eval (.tmp 13) = twoV d) (h15 : a0.eval (.tmp 15) = .int .i64 (i : Int)) (h20 : a0.eval (.tmp 20) = .int .i64 (j : Int)) (h10 : a0.eval (.tmp 10) = .map (some mm)) (h22 : a0.eval (.tmp 22) = .iface 442 (.pointer (some ⟨it_k, 0, none⟩)))
    (hbd : Bd w0 bb lo (pairsOf A B) nv ns ev es) (hlo : lo ≤ w0.heap.size) (hes : es.length ≤ 100000) (hP : PAt w0 gp A B N) (hd : Two w0 d nA nB) (hA : nA ≤ 1000) (hB : nB ≤ 1000) (hitk : Iter w0 it_k g_k (l_k.map nodeV) (t_k + 1)) (hlk : l_k[t_k]? = some u) (hmm : ColAt w0 mm X.zipIdx) (hnmm : X.Nodup) (huk : X[k]? = some u)
    (hx1 : i < nA) (hy1 : j < nB) (hq1 : i * nB + j = q1) (hN1 : q1 < N) (hp1 : (pairsOf A B)[q1]? = some p1) (hi1 : (pairsOf A B).idxOf p1 = q1)
    (hx2 : i < nA) (hy2 : k < nB) (hq2 : i * nB + k = q2) (hN2 : q2 < N) (hp2 : (pairsOf A B)[q2]? = some p2) (hi2 : (pairsOf A B).idxOf p2 = q2)
    (hQ : ∀ f v w, (∃ ev', Bd w bb lo (pairsOf A B) nv ns ev' (es ++ [(p1, p2)]) ∧ (ev'.ownBlock = ev.ownBlock ∨ ∃ g, ev'.ownBlock = some g ∧ w0.heap.size ≤ g) ∧ Keep (fun b => b = bb ∨ ev.ownBlock = some b) w0 w) → Q .normal ((putAll ops_lexB f 31 a0).put (some 165) v) w) :
    (Code.region id ops_lexB true).wp Tryz.prog Q a0 w0 := by
  generalize hops : ops_lexB = ops at *
  conv at hops =>
    lhs
    whnf
  subst hops
  have hpn1 : pnI q1 p1 = pn (pairsOf A B) p1 := by unfold pn; rw [hi1]
  have hpn2 : pnI q2 p2 = pn (pairsOf A B) p2 := by unfold pn; rw [hi2]
  refine wp_region_K (by kernel_rfl) [.eq (.iface 97 (.pointer (some ⟨bb, 0, none⟩))), .eq (.iface 97 (.pointer (some ⟨bb, 0, none⟩))), .eq (.slice (some ⟨gp, 0, none⟩) N N), .eq (.int .i64 (i : Int)), .eq (.int .i64 (j : Int)), .two i j, .eq (twoV d), .eq (.int .i64 (q1 : Int)), .eq (.pointer (some ⟨gp, q1 * 3, none⟩)), .eq (pnA q1 p1), .eq (pn (pairsOf A B) p1), .eq (.slice (some ⟨gp, 0, none⟩) N N), .eq (.int .i64 (i : Int)), .eq (.map (some mm)), .eq (.iface 442 (.pointer (some ⟨it_k, 0, none⟩))), .eq (nodeV u), .eq (.int .i64 u), .eq (.int .i64 (k : Int)), .two i k, .eq (twoV d), .eq (.int .i64 (q2 : Int)), .eq (.pointer (some ⟨gp, q2 * 3, none⟩)), .eq (pnA q2 p2), .eq (pn (pairsOf A B) p2), .eq (.func (.method "NewEdge") #[.iface 97 (.pointer (some ⟨bb, 0, none⟩))] #[]), .eq (.func (.method "NewEdge") #[.iface 97 (.pointer (some ⟨bb, 0, none⟩))] #[]), .eq (.iface 97 (.pointer (some ⟨bb, 0, none⟩))), .eq (edgeV (pairsOf A B) (p1, p2)), .eq (.func (.method "SetEdge") #[.iface 97 (.pointer (some ⟨bb, 0, none⟩))] #[]), .eq (.func (.method "SetEdge") #[.iface 97 (.pointer (some ⟨bb, 0, none⟩))] #[]), .eq (.iface 97 (.pointer (some ⟨bb, 0, none⟩)))] 31 (by kernel_rfl) (by rw [hsz]; kernel_rfl) (by kernel_rfl) ?_ ?_
  · intro j hj a w hk hs hv
    replace hs : ∀ t, isDst _ t = false → a.eval (.tmp t) = a0.eval (.tmp t) := hs
    obtain ⟨r, rfl⟩ : ∃ r, r = j := ⟨_, rfl⟩
    match r, hj, hv with
    | 0, _, hv =>
      have e0 := (hs 0 (by kernel_rfl)).trans h0
      exact OwesK.move rfl rfl (.inl rfl) e0 rfl
    | 1, _, hv =>
      have e0 := (hs 0 (by kernel_rfl)).trans h0
      exact OwesK.move rfl rfl (.inl rfl) e0 rfl
    | 2, _, hv =>
      have e8 := (hs 8 (by kernel_rfl)).trans h8
      exact OwesK.move rfl rfl (.inl rfl) e8 rfl
    | 3, _, hv =>
      have e15 := (hs 15 (by kernel_rfl)).trans h15
      exact OwesK.move rfl rfl (.inl rfl) e15 rfl
    | 4, _, hv =>
      have e20 := (hs 20 (by kernel_rfl)).trans h20
      exact OwesK.move rfl rfl (.inl rfl) e20 rfl
    | 5, _, hv =>
      have e137 : a.eval (.tmp 137) = .int .i64 (i : Int) := hv 3 (oD (by kernel_rfl))
      have e138 : a.eval (.tmp 138) = .int .i64 (j : Int) := hv 4 (oD (by kernel_rfl))
      exact OwesK.two (t := 0) rfl rfl rfl e137 e138 hk.size (bs2 _ _ w) rfl rfl
    | 6, _, hv =>
      have e13 := (hs 13 (by kernel_rfl)).trans h13
      exact OwesK.move rfl rfl (.inl rfl) e13 rfl
    | 7, _, hv =>
      obtain ⟨b139, e139, m139, _⟩ : ∃ b, a.eval (.tmp 139) = twoV b ∧ Two w b (i : Int) (j : Int) ∧ w0.heap.size ≤ b := hv 5 (oD (by kernel_rfl))
      have e140 : a.eval (.tmp 140) = twoV d := hv 6 (oD (by kernel_rfl))
      refine OwesK.fn rfl rfl rfl rfl (args := #[twoV b139, twoV d]) (by simp only [List.map_toArray, List.map_cons, List.map_nil, e139, e140]) (cfIdx _ _ w) ((idxFor_spec m139 (hd.keepF hk) hx1 hy1 hA hB).mono ?_)
      rintro e w' ⟨rfl, rfl⟩
      refine ⟨_, rfl, ?_, Keep.refl _ _⟩
      show Value.int .i64 ((i * nB + j : Nat) : Int) = .int .i64 (q1 : Int)
      rw [hq1]
    | 8, _, hv =>
      have e136 : a.eval (.tmp 136) = .slice (some ⟨gp, 0, none⟩) N N := hv 2 (oD (by kernel_rfl))
      have e141 : a.eval (.tmp 141) = .int .i64 (q1 : Int) := hv 7 (oD (by kernel_rfl))
      exact OwesK.iaddr rfl rfl rfl e136 e141 (iaP gp _ q1 hN1 w) rfl
    | 9, _, hv =>
      have e142 : a.eval (.tmp 142) = .pointer (some ⟨gp, q1 * 3, none⟩) := hv 8 (oD (by kernel_rfl))
      exact OwesK.load rfl rfl rfl e142 (ldP (hP.keep hk (fun h => h)) hN1 hp1) rfl
    | 10, _, hv =>
      have e143 : a.eval (.tmp 143) = pnA q1 p1 := hv 9 (oD (by kernel_rfl))
      exact OwesK.mki (v := pn (pairsOf A B) p1) rfl rfl rfl e143 (by rw [← hpn1]; exact mkiP q1 p1 w) rfl
    | 11, _, hv =>
      have e8 := (hs 8 (by kernel_rfl)).trans h8
      exact OwesK.move rfl rfl (.inl rfl) e8 rfl
    | 12, _, hv =>
      have e15 := (hs 15 (by kernel_rfl)).trans h15
      exact OwesK.move rfl rfl (.inl rfl) e15 rfl
    | 13, _, hv =>
      have e10 := (hs 10 (by kernel_rfl)).trans h10
      exact OwesK.move rfl rfl (.inl rfl) e10 rfl
    | 14, _, hv =>
      have e22 := (hs 22 (by kernel_rfl)).trans h22
      exact OwesK.move rfl rfl (.inl rfl) e22 rfl
    | 15, _, hv =>
      have e148 : a.eval (.tmp 148) = .iface 442 (.pointer (some ⟨it_k, 0, none⟩)) := hv 14 (oD (by kernel_rfl))
      refine OwesK.meth rfl rfl rfl rfl e148 (args := #[]) (by simp) (cmNode it_k w) ((Node_at (hitk.keep hk (fun h => h) (fun h => h)) hlk).mono ?_)
      rintro e w' ⟨rfl, q, rfl⟩
      exact ⟨_, rfl, rfl, (Keep.refl _ w).drewN q⟩
    | 16, _, hv =>
      have e149 : a.eval (.tmp 149) = nodeV u := hv 15 (oD (by kernel_rfl))
      refine OwesK.meth rfl rfl rfl rfl e149 (args := #[]) (by simp) (cmID u w) ((ID_spec _ _).mono ?_)
      rintro e w' ⟨rfl, rfl⟩
      exact ⟨_, rfl, rfl, Keep.refl _ _⟩
    | 17, _, hv =>
      have e147 : a.eval (.tmp 147) = .map (some mm) := hv 13 (oD (by kernel_rfl))
      have e150 : a.eval (.tmp 150) = .int .i64 u := hv 16 (oD (by kernel_rfl))
      exact OwesK.look rfl rfl rfl e147 e150 (lookI (hmm.keepF hk) hnmm huk) rfl
    | 18, _, hv =>
      have e146 : a.eval (.tmp 146) = .int .i64 (i : Int) := hv 12 (oD (by kernel_rfl))
      have e151 : a.eval (.tmp 151) = .int .i64 (k : Int) := hv 17 (oD (by kernel_rfl))
      exact OwesK.two (t := 0) rfl rfl rfl e146 e151 hk.size (bs2 _ _ w) rfl rfl
    | 19, _, hv =>
      have e13 := (hs 13 (by kernel_rfl)).trans h13
      exact OwesK.move rfl rfl (.inl rfl) e13 rfl
    | 20, _, hv =>
      obtain ⟨b152, e152, m152, _⟩ : ∃ b, a.eval (.tmp 152) = twoV b ∧ Two w b (i : Int) (k : Int) ∧ w0.heap.size ≤ b := hv 18 (oD (by kernel_rfl))
      have e153 : a.eval (.tmp 153) = twoV d := hv 19 (oD (by kernel_rfl))
      refine OwesK.fn rfl rfl rfl rfl (args := #[twoV b152, twoV d]) (by simp only [List.map_toArray, List.map_cons, List.map_nil, e152, e153]) (cfIdx _ _ w) ((idxFor_spec m152 (hd.keepF hk) hx2 hy2 hA hB).mono ?_)
      rintro e w' ⟨rfl, rfl⟩
      refine ⟨_, rfl, ?_, Keep.refl _ _⟩
      show Value.int .i64 ((i * nB + k : Nat) : Int) = .int .i64 (q2 : Int)
      rw [hq2]
    | 21, _, hv =>
      have e145 : a.eval (.tmp 145) = .slice (some ⟨gp, 0, none⟩) N N := hv 11 (oD (by kernel_rfl))
      have e154 : a.eval (.tmp 154) = .int .i64 (q2 : Int) := hv 20 (oD (by kernel_rfl))
      exact OwesK.iaddr rfl rfl rfl e145 e154 (iaP gp _ q2 hN2 w) rfl
    | 22, _, hv =>
      have e155 : a.eval (.tmp 155) = .pointer (some ⟨gp, q2 * 3, none⟩) := hv 21 (oD (by kernel_rfl))
      exact OwesK.load rfl rfl rfl e155 (ldP (hP.keep hk (fun h => h)) hN2 hp2) rfl
    | 23, _, hv =>
      have e156 : a.eval (.tmp 156) = pnA q2 p2 := hv 22 (oD (by kernel_rfl))
      exact OwesK.mki (v := pn (pairsOf A B) p2) rfl rfl rfl e156 (by rw [← hpn2]; exact mkiP q2 p2 w) rfl
    | 24, _, hv =>
      have e135 : a.eval (.tmp 135) = .iface 97 (.pointer (some ⟨bb, 0, none⟩)) := hv 1 (oD (by kernel_rfl))
      exact OwesK.mkf rfl rfl rfl e135 rfl
    | 25, _, hv =>
      have e158 : a.eval (.tmp 158) = .func (.method "NewEdge") #[.iface 97 (.pointer (some ⟨bb, 0, none⟩))] #[] := hv 24 (oD (by kernel_rfl))
      exact OwesK.nilc rfl rfl rfl e158 (nilB bb w) rfl
    | 26, _, hv =>
      have e135 : a.eval (.tmp 135) = .iface 97 (.pointer (some ⟨bb, 0, none⟩)) := hv 1 (oD (by kernel_rfl))
      exact OwesK.move rfl rfl (.inl rfl) e135 rfl
    | 27, _, hv =>
      have e160 : a.eval (.tmp 160) = .iface 97 (.pointer (some ⟨bb, 0, none⟩)) := hv 26 (oD (by kernel_rfl))
      have e144 : a.eval (.tmp 144) = pn (pairsOf A B) p1 := hv 10 (oD (by kernel_rfl))
      have e157 : a.eval (.tmp 157) = pn (pairsOf A B) p2 := hv 23 (oD (by kernel_rfl))
      refine OwesK.meth rfl rfl rfl rfl e160 (args := #[pn (pairsOf A B) p1, pn (pairsOf A B) p2]) (by simp only [List.map_toArray, List.map_cons, List.map_nil, e144, e157]) (cmNew bb _ _ w) ((newEdge_spec _ _ _ _ _).mono ?_)
      rintro e w' ⟨rfl, rfl⟩
      exact ⟨_, rfl, rfl, Keep.refl _ _⟩
    | 28, _, hv =>
      have e134 : a.eval (.tmp 134) = .iface 97 (.pointer (some ⟨bb, 0, none⟩)) := hv 0 (oD (by kernel_rfl))
      exact OwesK.mkf rfl rfl rfl e134 rfl
    | 29, _, hv =>
      have e162 : a.eval (.tmp 162) = .func (.method "SetEdge") #[.iface 97 (.pointer (some ⟨bb, 0, none⟩))] #[] := hv 28 (oD (by kernel_rfl))
      exact OwesK.nilc rfl rfl rfl e162 (nilS bb w) rfl
    | 30, _, hv =>
      have e134 : a.eval (.tmp 134) = .iface 97 (.pointer (some ⟨bb, 0, none⟩)) := hv 0 (oD (by kernel_rfl))
      exact OwesK.move rfl rfl (.inl rfl) e134 rfl
    | r + 31, hj, _ => exact absurd hj (by omega)
  · intro f w hk hv
    refine wpOp_meth (r := .iface 97 (.pointer (some ⟨bb, 0, none⟩))) (args := #[edgeV (pairsOf A B) (p1, p2)]) rfl rfl rfl rfl ?hr ?ha (cmSet bb _ w) ((setEdge_spec (hbd.keepF hk) (p1, p2) (Nat.le_trans hlo hk.size) hes).mono ?hc)
    case hr => exact (putAll_ev (m := 168) (by kernel_rfl) f a0 (by omega) (j := 30) (by decide) (by kernel_rfl)).trans (hv 30 (by decide))
    case ha =>
      simp only [List.map_toArray, List.map_cons, List.map_nil]
      rw [(putAll_ev (m := 168) (by kernel_rfl) f a0 (by omega) (j := 27) (by decide) (by kernel_rfl)).trans (hv 27 (by decide))]
    rintro e w' ⟨rfl, ev', r1, r2, r3⟩
    refine ⟨.tuple #[], rfl, ?_⟩
    refine hQ f (.tuple #[]) w' ⟨ev', r1, ?_, (hk.mono (fun _ _ h => h.elim)).trans r3 (fun _ _ h => h)⟩
    rcases r2 with r2 | ⟨g, r2, r4⟩
    · exact .inl r2
    · exact .inr ⟨g, r2, Nat.le_trans hk.size r4⟩
noncomputable def ops_conP : Array Oper := (Tryz.f150.body.bind (regionOf 20)).getD #[]
theorem putAll_conP (f : Nat → Value) (a : Act) : putAll ops_conP f 31 a = (((((((((((((((((((((((((((((((a.put (some 88) (f 0)).put (some 89) (f 1)).put (some 90) (f 2)).put (some 91) (f 3)).put (some 92) (f 4)).put (some 93) (f 5)).put (some 94) (f 6)).put (some 95) (f 7)).put (some 96) (f 8)).put (some 97) (f 9)).put (some 98) (f 10)).put (some 99) (f 11)).put (some 100) (f 12)).put (some 101) (f 13)).put (some 102) (f 14)).put (some 103) (f 15)).put (some 104) (f 16)).put (some 105) (f 17)).put (some 106) (f 18)).put (some 107) (f 19)).put (some 108) (f 20)).put (some 109) (f 21)).put (some 110) (f 22)).put (some 111) (f 23)).put (some 112) (f 24)).put (some 113) (f 25)).put (some 114) (f 26)).put (some 115) (f 27)).put (some 116) (f 28)).put (some 117) (f 29)).put (some 118) (f 30)) := by kernel_rfl
set_option maxHeartbeats 8000000 in
set_option maxRecDepth 20000 in
theorem conP_region {id : Nat} {w0 : World} {a0 : Act} {Q : Exit → Act → World → Prop} {bb lo gp d nA nB N q1 q2 h i px py s : Nat} {A B : List Int} {p1 p2 : Int × Int} {ns : List (Int × Int)} {nv ev : Value} {es : List Lnk}
    (hsz : a0.tmps.size = 186) (h0 : a0.eval (.tmp 0) = .iface 97 (.pointer (some ⟨bb, 0, none⟩))) (h8 : a0.eval (.tmp 8) = .slice (some ⟨gp, 0, none⟩) N N) (h13 : a0.eval (.tmp 13) = twoV d) (h15 : a0.eval (.tmp 15) = .int .i64 (i : Int)) (h18 : a0.eval (.tmp 18) = .int .i64 (h : Int)) (h14 : a0.eval (.tmp 14) = twoV s)
    (hbd : Bd w0 bb lo (pairsOf A B) nv ns ev es) (hlo : lo ≤ w0.heap.size) (hes : es.length ≤ 100000) (hP : PAt w0 gp A B N) (hd : Two w0 d nA nB) (hA : nA ≤ 1000) (hB : nB ≤ 1000) (htw : Two w0 s (px : Int) (py : Int))
    (hx1 : i < nA) (hy1 : px < nB) (hq1 : i * nB + px = q1) (hN1 : q1 < N) (hp1 : (pairsOf A B)[q1]? = some p1) (hi1 : (pairsOf A B).idxOf p1 = q1)
    (hx2 : h < nA) (hy2 : py < nB) (hq2 : h * nB + py = q2) (hN2 : q2 < N) (hp2 : (pairsOf A B)[q2]? = some p2) (hi2 : (pairsOf A B).idxOf p2 = q2)
    (hQ : ∀ f v w, (∃ ev', Bd w bb lo (pairsOf A B) nv ns ev' (es ++ [(p1, p2)]) ∧ (ev'.ownBlock = ev.ownBlock ∨ ∃ g, ev'.ownBlock = some g ∧ w0.heap.size ≤ g) ∧ Keep (fun b => b = bb ∨ ev.ownBlock = some b) w0 w) → Q .normal ((putAll ops_conP f 31 a0).put (some 119) v) w) :
    (Code.region id ops_conP true).wp Tryz.prog Q a0 w0 := by
  generalize hops : ops_conP = ops at *
  conv at hops =>
    lhs
    whnf
  subst hops
  have hpn1 : pnI q1 p1 = pn (pairsOf A B) p1 := by unfold pn; rw [hi1]
  have hpn2 : pnI q2 p2 = pn (pairsOf A B) p2 := by unfold pn; rw [hi2]
  refine wp_region_K (by kernel_rfl) [.eq (.iface 97 (.pointer (some ⟨bb, 0, none⟩))), .eq (.iface 97 (.pointer (some ⟨bb, 0, none⟩))), .eq (.slice (some ⟨gp, 0, none⟩) N N), .eq (.int .i64 (i : Int)), .eq (twoV s), .eq (.pointer (some ⟨s, 0, none⟩)), .eq (.int .i64 (px : Int)), .two i px, .eq (twoV d), .eq (.int .i64 (q1 : Int)), .eq (.pointer (some ⟨gp, q1 * 3, none⟩)), .eq (pnA q1 p1), .eq (pn (pairsOf A B) p1), .eq (.slice (some ⟨gp, 0, none⟩) N N), .eq (.int .i64 (h : Int)), .eq (twoV s), .eq (.pointer (some ⟨s, 1, none⟩)), .eq (.int .i64 (py : Int)), .two h py, .eq (twoV d), .eq (.int .i64 (q2 : Int)), .eq (.pointer (some ⟨gp, q2 * 3, none⟩)), .eq (pnA q2 p2), .eq (pn (pairsOf A B) p2), .eq (.func (.method "NewEdge") #[.iface 97 (.pointer (some ⟨bb, 0, none⟩))] #[]), .eq (.func (.method "NewEdge") #[.iface 97 (.pointer (some ⟨bb, 0, none⟩))] #[]), .eq (.iface 97 (.pointer (some ⟨bb, 0, none⟩))), .eq (edgeV (pairsOf A B) (p1, p2)), .eq (.func (.method "SetEdge") #[.iface 97 (.pointer (some ⟨bb, 0, none⟩))] #[]), .eq (.func (.method "SetEdge") #[.iface 97 (.pointer (some ⟨bb, 0, none⟩))] #[]), .eq (.iface 97 (.pointer (some ⟨bb, 0, none⟩)))] 31 (by kernel_rfl) (by rw [hsz]; kernel_rfl) (by kernel_rfl) ?_ ?_
  · intro j hj a w hk hs hv
    replace hs : ∀ t, isDst _ t = false → a.eval (.tmp t) = a0.eval (.tmp t) := hs
    obtain ⟨r, rfl⟩ : ∃ r, r = j := ⟨_, rfl⟩
    match r, hj, hv with
    | 0, _, hv =>
      have e0 := (hs 0 (by kernel_rfl)).trans h0
      exact OwesK.move rfl rfl (.inl rfl) e0 rfl
    | 1, _, hv =>
      have e0 := (hs 0 (by kernel_rfl)).trans h0
      exact OwesK.move rfl rfl (.inl rfl) e0 rfl
    | 2, _, hv =>
      have e8 := (hs 8 (by kernel_rfl)).trans h8
      exact OwesK.move rfl rfl (.inl rfl) e8 rfl
    | 3, _, hv =>
      have e15 := (hs 15 (by kernel_rfl)).trans h15
      exact OwesK.move rfl rfl (.inl rfl) e15 rfl
    | 4, _, hv =>
      have e14 := (hs 14 (by kernel_rfl)).trans h14
      exact OwesK.move rfl rfl (.inl rfl) e14 rfl
    | 5, _, hv =>
      have e92 : a.eval (.tmp 92) = twoV s := hv 4 (oD (by kernel_rfl))
      exact OwesK.iaddr (y := .int .i64 0) rfl rfl rfl e92 rfl (ia20 s w) rfl
    | 6, _, hv =>
      have e93 : a.eval (.tmp 93) = .pointer (some ⟨s, 0, none⟩) := hv 5 (oD (by kernel_rfl))
      have hct := (htw.keepF hk).cells
      exact OwesK.load rfl rfl rfl e93 (ldI hct.1) rfl
    | 7, _, hv =>
      have e91 : a.eval (.tmp 91) = .int .i64 (i : Int) := hv 3 (oD (by kernel_rfl))
      have e94 : a.eval (.tmp 94) = .int .i64 (px : Int) := hv 6 (oD (by kernel_rfl))
      exact OwesK.two (t := 0) rfl rfl rfl e91 e94 hk.size (bs2 _ _ w) rfl rfl
    | 8, _, hv =>
      have e13 := (hs 13 (by kernel_rfl)).trans h13
      exact OwesK.move rfl rfl (.inl rfl) e13 rfl
    | 9, _, hv =>
      obtain ⟨b95, e95, m95, _⟩ : ∃ b, a.eval (.tmp 95) = twoV b ∧ Two w b (i : Int) (px : Int) ∧ w0.heap.size ≤ b := hv 7 (oD (by kernel_rfl))
      have e96 : a.eval (.tmp 96) = twoV d := hv 8 (oD (by kernel_rfl))
      refine OwesK.fn rfl rfl rfl rfl (args := #[twoV b95, twoV d]) (by simp only [List.map_toArray, List.map_cons, List.map_nil, e95, e96]) (cfIdx _ _ w) ((idxFor_spec m95 (hd.keepF hk) hx1 hy1 hA hB).mono ?_)
      rintro e w' ⟨rfl, rfl⟩
      refine ⟨_, rfl, ?_, Keep.refl _ _⟩
      show Value.int .i64 ((i * nB + px : Nat) : Int) = .int .i64 (q1 : Int)
      rw [hq1]
    | 10, _, hv =>
      have e90 : a.eval (.tmp 90) = .slice (some ⟨gp, 0, none⟩) N N := hv 2 (oD (by kernel_rfl))
      have e97 : a.eval (.tmp 97) = .int .i64 (q1 : Int) := hv 9 (oD (by kernel_rfl))
      exact OwesK.iaddr rfl rfl rfl e90 e97 (iaP gp _ q1 hN1 w) rfl
    | 11, _, hv =>
      have e98 : a.eval (.tmp 98) = .pointer (some ⟨gp, q1 * 3, none⟩) := hv 10 (oD (by kernel_rfl))
      exact OwesK.load rfl rfl rfl e98 (ldP (hP.keep hk (fun h => h)) hN1 hp1) rfl
    | 12, _, hv =>
      have e99 : a.eval (.tmp 99) = pnA q1 p1 := hv 11 (oD (by kernel_rfl))
      exact OwesK.mki (v := pn (pairsOf A B) p1) rfl rfl rfl e99 (by rw [← hpn1]; exact mkiP q1 p1 w) rfl
    | 13, _, hv =>
      have e8 := (hs 8 (by kernel_rfl)).trans h8
      exact OwesK.move rfl rfl (.inl rfl) e8 rfl
    | 14, _, hv =>
      have e18 := (hs 18 (by kernel_rfl)).trans h18
      exact OwesK.move rfl rfl (.inl rfl) e18 rfl
    | 15, _, hv =>
      have e14 := (hs 14 (by kernel_rfl)).trans h14
      exact OwesK.move rfl rfl (.inl rfl) e14 rfl
    | 16, _, hv =>
      have e103 : a.eval (.tmp 103) = twoV s := hv 15 (oD (by kernel_rfl))
      exact OwesK.iaddr (y := .int .i64 1) rfl rfl rfl e103 rfl (ia21 s w) rfl
    | 17, _, hv =>
      have e104 : a.eval (.tmp 104) = .pointer (some ⟨s, 1, none⟩) := hv 16 (oD (by kernel_rfl))
      have hct := (htw.keepF hk).cells
      exact OwesK.load rfl rfl rfl e104 (ldI hct.2.1) rfl
    | 18, _, hv =>
      have e102 : a.eval (.tmp 102) = .int .i64 (h : Int) := hv 14 (oD (by kernel_rfl))
      have e105 : a.eval (.tmp 105) = .int .i64 (py : Int) := hv 17 (oD (by kernel_rfl))
      exact OwesK.two (t := 0) rfl rfl rfl e102 e105 hk.size (bs2 _ _ w) rfl rfl
    | 19, _, hv =>
      have e13 := (hs 13 (by kernel_rfl)).trans h13
      exact OwesK.move rfl rfl (.inl rfl) e13 rfl
    | 20, _, hv =>
      obtain ⟨b106, e106, m106, _⟩ : ∃ b, a.eval (.tmp 106) = twoV b ∧ Two w b (h : Int) (py : Int) ∧ w0.heap.size ≤ b := hv 18 (oD (by kernel_rfl))
      have e107 : a.eval (.tmp 107) = twoV d := hv 19 (oD (by kernel_rfl))
      refine OwesK.fn rfl rfl rfl rfl (args := #[twoV b106, twoV d]) (by simp only [List.map_toArray, List.map_cons, List.map_nil, e106, e107]) (cfIdx _ _ w) ((idxFor_spec m106 (hd.keepF hk) hx2 hy2 hA hB).mono ?_)
      rintro e w' ⟨rfl, rfl⟩
      refine ⟨_, rfl, ?_, Keep.refl _ _⟩
      show Value.int .i64 ((h * nB + py : Nat) : Int) = .int .i64 (q2 : Int)
      rw [hq2]
    | 21, _, hv =>
      have e101 : a.eval (.tmp 101) = .slice (some ⟨gp, 0, none⟩) N N := hv 13 (oD (by kernel_rfl))
      have e108 : a.eval (.tmp 108) = .int .i64 (q2 : Int) := hv 20 (oD (by kernel_rfl))
      exact OwesK.iaddr rfl rfl rfl e101 e108 (iaP gp _ q2 hN2 w) rfl
    | 22, _, hv =>
      have e109 : a.eval (.tmp 109) = .pointer (some ⟨gp, q2 * 3, none⟩) := hv 21 (oD (by kernel_rfl))
      exact OwesK.load rfl rfl rfl e109 (ldP (hP.keep hk (fun h => h)) hN2 hp2) rfl
    | 23, _, hv =>
      have e110 : a.eval (.tmp 110) = pnA q2 p2 := hv 22 (oD (by kernel_rfl))
      exact OwesK.mki (v := pn (pairsOf A B) p2) rfl rfl rfl e110 (by rw [← hpn2]; exact mkiP q2 p2 w) rfl
    | 24, _, hv =>
      have e89 : a.eval (.tmp 89) = .iface 97 (.pointer (some ⟨bb, 0, none⟩)) := hv 1 (oD (by kernel_rfl))
      exact OwesK.mkf rfl rfl rfl e89 rfl
    | 25, _, hv =>
      have e112 : a.eval (.tmp 112) = .func (.method "NewEdge") #[.iface 97 (.pointer (some ⟨bb, 0, none⟩))] #[] := hv 24 (oD (by kernel_rfl))
      exact OwesK.nilc rfl rfl rfl e112 (nilB bb w) rfl
    | 26, _, hv =>
      have e89 : a.eval (.tmp 89) = .iface 97 (.pointer (some ⟨bb, 0, none⟩)) := hv 1 (oD (by kernel_rfl))
      exact OwesK.move rfl rfl (.inl rfl) e89 rfl
    | 27, _, hv =>
      have e114 : a.eval (.tmp 114) = .iface 97 (.pointer (some ⟨bb, 0, none⟩)) := hv 26 (oD (by kernel_rfl))
      have e100 : a.eval (.tmp 100) = pn (pairsOf A B) p1 := hv 12 (oD (by kernel_rfl))
      have e111 : a.eval (.tmp 111) = pn (pairsOf A B) p2 := hv 23 (oD (by kernel_rfl))
      refine OwesK.meth rfl rfl rfl rfl e114 (args := #[pn (pairsOf A B) p1, pn (pairsOf A B) p2]) (by simp only [List.map_toArray, List.map_cons, List.map_nil, e100, e111]) (cmNew bb _ _ w) ((newEdge_spec _ _ _ _ _).mono ?_)
      rintro e w' ⟨rfl, rfl⟩
      exact ⟨_, rfl, rfl, Keep.refl _ _⟩
    | 28, _, hv =>
      have e88 : a.eval (.tmp 88) = .iface 97 (.pointer (some ⟨bb, 0, none⟩)) := hv 0 (oD (by kernel_rfl))
      exact OwesK.mkf rfl rfl rfl e88 rfl
    | 29, _, hv =>
      have e116 : a.eval (.tmp 116) = .func (.method "SetEdge") #[.iface 97 (.pointer (some ⟨bb, 0, none⟩))] #[] := hv 28 (oD (by kernel_rfl))
      exact OwesK.nilc rfl rfl rfl e116 (nilS bb w) rfl
    | 30, _, hv =>
      have e88 : a.eval (.tmp 88) = .iface 97 (.pointer (some ⟨bb, 0, none⟩)) := hv 0 (oD (by kernel_rfl))
      exact OwesK.move rfl rfl (.inl rfl) e88 rfl
    | r + 31, hj, _ => exact absurd hj (by omega)
  · intro f w hk hv
    refine wpOp_meth (r := .iface 97 (.pointer (some ⟨bb, 0, none⟩))) (args := #[edgeV (pairsOf A B) (p1, p2)]) rfl rfl rfl rfl ?hr ?ha (cmSet bb _ w) ((setEdge_spec (hbd.keepF hk) (p1, p2) (Nat.le_trans hlo hk.size) hes).mono ?hc)
    case hr => exact (putAll_ev (m := 186) (by kernel_rfl) f a0 (by omega) (j := 30) (by decide) (by kernel_rfl)).trans (hv 30 (by decide))
    case ha =>
      simp only [List.map_toArray, List.map_cons, List.map_nil]
      rw [(putAll_ev (m := 186) (by kernel_rfl) f a0 (by omega) (j := 27) (by decide) (by kernel_rfl)).trans (hv 27 (by decide))]
    rintro e w' ⟨rfl, ev', r1, r2, r3⟩
    refine ⟨.tuple #[], rfl, ?_⟩
    refine hQ f (.tuple #[]) w' ⟨ev', r1, ?_, (hk.mono (fun _ _ h => h.elim)).trans r3 (fun _ _ h => h)⟩
    rcases r2 with r2 | ⟨g, r2, r4⟩
    · exact .inl r2
    · exact .inr ⟨g, r2, Nat.le_trans hk.size r4⟩
noncomputable def ops_conQ : Array Oper := (Tryz.f150.body.bind (regionOf 31)).getD #[]
theorem putAll_conQ (f : Nat → Value) (a : Act) : putAll ops_conQ f 31 a = (((((((((((((((((((((((((((((((a.put (some 153) (f 0)).put (some 154) (f 1)).put (some 155) (f 2)).put (some 156) (f 3)).put (some 157) (f 4)).put (some 158) (f 5)).put (some 159) (f 6)).put (some 160) (f 7)).put (some 161) (f 8)).put (some 162) (f 9)).put (some 163) (f 10)).put (some 164) (f 11)).put (some 165) (f 12)).put (some 166) (f 13)).put (some 167) (f 14)).put (some 168) (f 15)).put (some 169) (f 16)).put (some 170) (f 17)).put (some 171) (f 18)).put (some 172) (f 19)).put (some 173) (f 20)).put (some 174) (f 21)).put (some 175) (f 22)).put (some 176) (f 23)).put (some 177) (f 24)).put (some 178) (f 25)).put (some 179) (f 26)).put (some 180) (f 27)).put (some 181) (f 28)).put (some 182) (f 29)).put (some 183) (f 30)) := by kernel_rfl
set_option maxHeartbeats 8000000 in
set_option maxRecDepth 20000 in
theorem conQ_region {id : Nat} {w0 : World} {a0 : Act} {Q : Exit → Act → World → Prop} {bb lo gp d nA nB N q1 q2 h j px py s : Nat} {A B : List Int} {p1 p2 : Int × Int} {ns : List (Int × Int)} {nv ev : Value} {es : List Lnk}
    (hsz : a0.tmps.size = 186) (h0 : a0.eval (.tmp 0) = .iface 97 (.pointer (some ⟨bb, 0, none⟩))) (h8 : a0.eval (.tmp 8) = .slice (some ⟨gp, 0, none⟩) N N) (h13 : a0.eval (.tmp 13) = twoV d) (h20 : a0.eval (.tmp 20) = .int .i64 (j : Int)) (h23 : a0.eval (.tmp 23) = .int .i64 (h : Int)) (h14 : a0.eval (.tmp 14) = twoV s)
    (hbd : Bd w0 bb lo (pairsOf A B) nv ns ev es) (hlo : lo ≤ w0.heap.size) (hes : es.length ≤ 100000) (hP : PAt w0 gp A B N) (hd : Two w0 d nA nB) (hA : nA ≤ 1000) (hB : nB ≤ 1000) (htw : Two w0 s (px : Int) (py : Int))
    (hx1 : px < nA) (hy1 : j < nB) (hq1 : px * nB + j = q1) (hN1 : q1 < N) (hp1 : (pairsOf A B)[q1]? = some p1) (hi1 : (pairsOf A B).idxOf p1 = q1)
    (hx2 : py < nA) (hy2 : h < nB) (hq2 : py * nB + h = q2) (hN2 : q2 < N) (hp2 : (pairsOf A B)[q2]? = some p2) (hi2 : (pairsOf A B).idxOf p2 = q2)
    (hQ : ∀ f v w, (∃ ev', Bd w bb lo (pairsOf A B) nv ns ev' (es ++ [(p1, p2)]) ∧ (ev'.ownBlock = ev.ownBlock ∨ ∃ g, ev'.ownBlock = some g ∧ w0.heap.size ≤ g) ∧ Keep (fun b => b = bb ∨ ev.ownBlock = some b) w0 w) → Q .normal ((putAll ops_conQ f 31 a0).put (some 184) v) w) :
    (Code.region id ops_conQ true).wp Tryz.prog Q a0 w0 := by
  generalize hops : ops_conQ = ops at *
  conv at hops =>
    lhs
    whnf
  subst hops
  have hpn1 : pnI q1 p1 = pn (pairsOf A B) p1 := by unfold pn; rw [hi1]
  have hpn2 : pnI q2 p2 = pn (pairsOf A B) p2 := by unfold pn; rw [hi2]
  refine wp_region_K (by kernel_rfl) [.eq (.iface 97 (.pointer (some ⟨bb, 0, none⟩))), .eq (.iface 97 (.pointer (some ⟨bb, 0, none⟩))), .eq (.slice (some ⟨gp, 0, none⟩) N N), .eq (twoV s), .eq (.pointer (some ⟨s, 0, none⟩)), .eq (.int .i64 (px : Int)), .eq (.int .i64 (j : Int)), .two px j, .eq (twoV d), .eq (.int .i64 (q1 : Int)), .eq (.pointer (some ⟨gp, q1 * 3, none⟩)), .eq (pnA q1 p1), .eq (pn (pairsOf A B) p1), .eq (.slice (some ⟨gp, 0, none⟩) N N), .eq (twoV s), .eq (.pointer (some ⟨s, 1, none⟩)), .eq (.int .i64 (py : Int)), .eq (.int .i64 (h : Int)), .two py h, .eq (twoV d), .eq (.int .i64 (q2 : Int)), .eq (.pointer (some ⟨gp, q2 * 3, none⟩)), .eq (pnA q2 p2), .eq (pn (pairsOf A B) p2), .eq (.func (.method "NewEdge") #[.iface 97 (.pointer (some ⟨bb, 0, none⟩))] #[]), .eq (.func (.method "NewEdge") #[.iface 97 (.pointer (some ⟨bb, 0, none⟩))] #[]), .eq (.iface 97 (.pointer (some ⟨bb, 0, none⟩))), .eq (edgeV (pairsOf A B) (p1, p2)), .eq (.func (.method "SetEdge") #[.iface 97 (.pointer (some ⟨bb, 0, none⟩))] #[]), .eq (.func (.method "SetEdge") #[.iface 97 (.pointer (some ⟨bb, 0, none⟩))] #[]), .eq (.iface 97 (.pointer (some ⟨bb, 0, none⟩)))] 31 (by kernel_rfl) (by rw [hsz]; kernel_rfl) (by kernel_rfl) ?_ ?_
  · intro j hj a w hk hs hv
    replace hs : ∀ t, isDst _ t = false → a.eval (.tmp t) = a0.eval (.tmp t) := hs
    obtain ⟨r, rfl⟩ : ∃ r, r = j := ⟨_, rfl⟩
    match r, hj, hv with
    | 0, _, hv =>
      have e0 := (hs 0 (by kernel_rfl)).trans h0
      exact OwesK.move rfl rfl (.inl rfl) e0 rfl
    | 1, _, hv =>
      have e0 := (hs 0 (by kernel_rfl)).trans h0
      exact OwesK.move rfl rfl (.inl rfl) e0 rfl
    | 2, _, hv =>
      have e8 := (hs 8 (by kernel_rfl)).trans h8
      exact OwesK.move rfl rfl (.inl rfl) e8 rfl
    | 3, _, hv =>
      have e14 := (hs 14 (by kernel_rfl)).trans h14
      exact OwesK.move rfl rfl (.inl rfl) e14 rfl
    | 4, _, hv =>
      have e156 : a.eval (.tmp 156) = twoV s := hv 3 (oD (by kernel_rfl))
      exact OwesK.iaddr (y := .int .i64 0) rfl rfl rfl e156 rfl (ia20 s w) rfl
    | 5, _, hv =>
      have e157 : a.eval (.tmp 157) = .pointer (some ⟨s, 0, none⟩) := hv 4 (oD (by kernel_rfl))
      have hct := (htw.keepF hk).cells
      exact OwesK.load rfl rfl rfl e157 (ldI hct.1) rfl
    | 6, _, hv =>
      have e20 := (hs 20 (by kernel_rfl)).trans h20
      exact OwesK.move rfl rfl (.inl rfl) e20 rfl
    | 7, _, hv =>
      have e158 : a.eval (.tmp 158) = .int .i64 (px : Int) := hv 5 (oD (by kernel_rfl))
      have e159 : a.eval (.tmp 159) = .int .i64 (j : Int) := hv 6 (oD (by kernel_rfl))
      exact OwesK.two (t := 0) rfl rfl rfl e158 e159 hk.size (bs2 _ _ w) rfl rfl
    | 8, _, hv =>
      have e13 := (hs 13 (by kernel_rfl)).trans h13
      exact OwesK.move rfl rfl (.inl rfl) e13 rfl
    | 9, _, hv =>
      obtain ⟨b160, e160, m160, _⟩ : ∃ b, a.eval (.tmp 160) = twoV b ∧ Two w b (px : Int) (j : Int) ∧ w0.heap.size ≤ b := hv 7 (oD (by kernel_rfl))
      have e161 : a.eval (.tmp 161) = twoV d := hv 8 (oD (by kernel_rfl))
      refine OwesK.fn rfl rfl rfl rfl (args := #[twoV b160, twoV d]) (by simp only [List.map_toArray, List.map_cons, List.map_nil, e160, e161]) (cfIdx _ _ w) ((idxFor_spec m160 (hd.keepF hk) hx1 hy1 hA hB).mono ?_)
      rintro e w' ⟨rfl, rfl⟩
      refine ⟨_, rfl, ?_, Keep.refl _ _⟩
      show Value.int .i64 ((px * nB + j : Nat) : Int) = .int .i64 (q1 : Int)
      rw [hq1]
    | 10, _, hv =>
      have e155 : a.eval (.tmp 155) = .slice (some ⟨gp, 0, none⟩) N N := hv 2 (oD (by kernel_rfl))
      have e162 : a.eval (.tmp 162) = .int .i64 (q1 : Int) := hv 9 (oD (by kernel_rfl))
      exact OwesK.iaddr rfl rfl rfl e155 e162 (iaP gp _ q1 hN1 w) rfl
    | 11, _, hv =>
      have e163 : a.eval (.tmp 163) = .pointer (some ⟨gp, q1 * 3, none⟩) := hv 10 (oD (by kernel_rfl))
      exact OwesK.load rfl rfl rfl e163 (ldP (hP.keep hk (fun h => h)) hN1 hp1) rfl
    | 12, _, hv =>
      have e164 : a.eval (.tmp 164) = pnA q1 p1 := hv 11 (oD (by kernel_rfl))
      exact OwesK.mki (v := pn (pairsOf A B) p1) rfl rfl rfl e164 (by rw [← hpn1]; exact mkiP q1 p1 w) rfl
    | 13, _, hv =>
      have e8 := (hs 8 (by kernel_rfl)).trans h8
      exact OwesK.move rfl rfl (.inl rfl) e8 rfl
    | 14, _, hv =>
      have e14 := (hs 14 (by kernel_rfl)).trans h14
      exact OwesK.move rfl rfl (.inl rfl) e14 rfl
    | 15, _, hv =>
      have e167 : a.eval (.tmp 167) = twoV s := hv 14 (oD (by kernel_rfl))
      exact OwesK.iaddr (y := .int .i64 1) rfl rfl rfl e167 rfl (ia21 s w) rfl
    | 16, _, hv =>
      have e168 : a.eval (.tmp 168) = .pointer (some ⟨s, 1, none⟩) := hv 15 (oD (by kernel_rfl))
      have hct := (htw.keepF hk).cells
      exact OwesK.load rfl rfl rfl e168 (ldI hct.2.1) rfl
    | 17, _, hv =>
      have e23 := (hs 23 (by kernel_rfl)).trans h23
      exact OwesK.move rfl rfl (.inl rfl) e23 rfl
    | 18, _, hv =>
      have e169 : a.eval (.tmp 169) = .int .i64 (py : Int) := hv 16 (oD (by kernel_rfl))
      have e170 : a.eval (.tmp 170) = .int .i64 (h : Int) := hv 17 (oD (by kernel_rfl))
      exact OwesK.two (t := 0) rfl rfl rfl e169 e170 hk.size (bs2 _ _ w) rfl rfl
    | 19, _, hv =>
      have e13 := (hs 13 (by kernel_rfl)).trans h13
      exact OwesK.move rfl rfl (.inl rfl) e13 rfl
    | 20, _, hv =>
      obtain ⟨b171, e171, m171, _⟩ : ∃ b, a.eval (.tmp 171) = twoV b ∧ Two w b (py : Int) (h : Int) ∧ w0.heap.size ≤ b := hv 18 (oD (by kernel_rfl))
      have e172 : a.eval (.tmp 172) = twoV d := hv 19 (oD (by kernel_rfl))
      refine OwesK.fn rfl rfl rfl rfl (args := #[twoV b171, twoV d]) (by simp only [List.map_toArray, List.map_cons, List.map_nil, e171, e172]) (cfIdx _ _ w) ((idxFor_spec m171 (hd.keepF hk) hx2 hy2 hA hB).mono ?_)
      rintro e w' ⟨rfl, rfl⟩
      refine ⟨_, rfl, ?_, Keep.refl _ _⟩
      show Value.int .i64 ((py * nB + h : Nat) : Int) = .int .i64 (q2 : Int)
      rw [hq2]
    | 21, _, hv =>
      have e166 : a.eval (.tmp 166) = .slice (some ⟨gp, 0, none⟩) N N := hv 13 (oD (by kernel_rfl))
      have e173 : a.eval (.tmp 173) = .int .i64 (q2 : Int) := hv 20 (oD (by kernel_rfl))
      exact OwesK.iaddr rfl rfl rfl e166 e173 (iaP gp _ q2 hN2 w) rfl
    | 22, _, hv =>
      have e174 : a.eval (.tmp 174) = .pointer (some ⟨gp, q2 * 3, none⟩) := hv 21 (oD (by kernel_rfl))
      exact OwesK.load rfl rfl rfl e174 (ldP (hP.keep hk (fun h => h)) hN2 hp2) rfl
    | 23, _, hv =>
      have e175 : a.eval (.tmp 175) = pnA q2 p2 := hv 22 (oD (by kernel_rfl))
      exact OwesK.mki (v := pn (pairsOf A B) p2) rfl rfl rfl e175 (by rw [← hpn2]; exact mkiP q2 p2 w) rfl
    | 24, _, hv =>
      have e154 : a.eval (.tmp 154) = .iface 97 (.pointer (some ⟨bb, 0, none⟩)) := hv 1 (oD (by kernel_rfl))
      exact OwesK.mkf rfl rfl rfl e154 rfl
    | 25, _, hv =>
      have e177 : a.eval (.tmp 177) = .func (.method "NewEdge") #[.iface 97 (.pointer (some ⟨bb, 0, none⟩))] #[] := hv 24 (oD (by kernel_rfl))
      exact OwesK.nilc rfl rfl rfl e177 (nilB bb w) rfl
    | 26, _, hv =>
      have e154 : a.eval (.tmp 154) = .iface 97 (.pointer (some ⟨bb, 0, none⟩)) := hv 1 (oD (by kernel_rfl))
      exact OwesK.move rfl rfl (.inl rfl) e154 rfl
    | 27, _, hv =>
      have e179 : a.eval (.tmp 179) = .iface 97 (.pointer (some ⟨bb, 0, none⟩)) := hv 26 (oD (by kernel_rfl))
      have e165 : a.eval (.tmp 165) = pn (pairsOf A B) p1 := hv 12 (oD (by kernel_rfl))
      have e176 : a.eval (.tmp 176) = pn (pairsOf A B) p2 := hv 23 (oD (by kernel_rfl))
      refine OwesK.meth rfl rfl rfl rfl e179 (args := #[pn (pairsOf A B) p1, pn (pairsOf A B) p2]) (by simp only [List.map_toArray, List.map_cons, List.map_nil, e165, e176]) (cmNew bb _ _ w) ((newEdge_spec _ _ _ _ _).mono ?_)
      rintro e w' ⟨rfl, rfl⟩
      exact ⟨_, rfl, rfl, Keep.refl _ _⟩
    | 28, _, hv =>
      have e153 : a.eval (.tmp 153) = .iface 97 (.pointer (some ⟨bb, 0, none⟩)) := hv 0 (oD (by kernel_rfl))
      exact OwesK.mkf rfl rfl rfl e153 rfl
    | 29, _, hv =>
      have e181 : a.eval (.tmp 181) = .func (.method "SetEdge") #[.iface 97 (.pointer (some ⟨bb, 0, none⟩))] #[] := hv 28 (oD (by kernel_rfl))
      exact OwesK.nilc rfl rfl rfl e181 (nilS bb w) rfl
    | 30, _, hv =>
      have e153 : a.eval (.tmp 153) = .iface 97 (.pointer (some ⟨bb, 0, none⟩)) := hv 0 (oD (by kernel_rfl))
      exact OwesK.move rfl rfl (.inl rfl) e153 rfl
    | r + 31, hj, _ => exact absurd hj (by omega)
  · intro f w hk hv
    refine wpOp_meth (r := .iface 97 (.pointer (some ⟨bb, 0, none⟩))) (args := #[edgeV (pairsOf A B) (p1, p2)]) rfl rfl rfl rfl ?hr ?ha (cmSet bb _ w) ((setEdge_spec (hbd.keepF hk) (p1, p2) (Nat.le_trans hlo hk.size) hes).mono ?hc)
    case hr => exact (putAll_ev (m := 186) (by kernel_rfl) f a0 (by omega) (j := 30) (by decide) (by kernel_rfl)).trans (hv 30 (by decide))
    case ha =>
      simp only [List.map_toArray, List.map_cons, List.map_nil]
      rw [(putAll_ev (m := 186) (by kernel_rfl) f a0 (by omega) (j := 27) (by decide) (by kernel_rfl)).trans (hv 27 (by decide))]
    rintro e w' ⟨rfl, ev', r1, r2, r3⟩
    refine ⟨.tuple #[], rfl, ?_⟩
    refine hQ f (.tuple #[]) w' ⟨ev', r1, ?_, (hk.mono (fun _ _ h => h.elim)).trans r3 (fun _ _ h => h)⟩
    rcases r2 with r2 | ⟨g, r2, r4⟩
    · exact .inl r2
    · exact .inr ⟨g, r2, Nat.le_trans hk.size r4⟩
end Go.Proofs.YtpjaeilkjglfhaaGreat
