/- The drawn regions of the products that lay one edge: written by gen_join.py. -/
import Derived.Test.YtdaccgelmcmfjaaGreatDoorJP1
set_option linter.all false
namespace Go.Proofs.YtdaccgelmcmfjaaGreatDoor
open Go.RowKit Go.V
noncomputable def ops_tens : Array Oper := (Tryz.f13.body.bind (regionOf 21)).getD #[]
theorem putAll_tens (f : Nat → Value) (a : Act) : putAll ops_tens f 31 a = (((((((((((((((((((((((((((((((a.put (some 88) (f 0)).put (some 89) (f 1)).put (some 90) (f 2)).put (some 91) (f 3)).put (some 92) (f 4)).put (some 93) (f 5)).put (some 94) (f 6)).put (some 95) (f 7)).put (some 96) (f 8)).put (some 97) (f 9)).put (some 98) (f 10)).put (some 99) (f 11)).put (some 100) (f 12)).put (some 101) (f 13)).put (some 102) (f 14)).put (some 103) (f 15)).put (some 104) (f 16)).put (some 105) (f 17)).put (some 106) (f 18)).put (some 107) (f 19)).put (some 108) (f 20)).put (some 109) (f 21)).put (some 110) (f 22)).put (some 111) (f 23)).put (some 112) (f 24)).put (some 113) (f 25)).put (some 114) (f 26)).put (some 115) (f 27)).put (some 116) (f 28)).put (some 117) (f 29)).put (some 118) (f 30)) := by kernel_rfl
set_option maxHeartbeats 8000000 in
set_option maxRecDepth 20000 in
theorem tens_region {id : Nat} {w0 : World} {a0 : Act} {Q : Exit → Act → World → Prop} {bb lo gp d nA nB N q1 q2 h i j k : Nat} {A B : List Int} {p1 p2 : Int × Int} {ns : List (Int × Int)} {nv ev : Value} {es : List Lnk} {it_k g_k t_k : Nat} {l_k : List Int} {u : Int} {mm : Nat} {X : List Int}
    (hsz : a0.tmps.size = 122) (h0 : a0.eval (.tmp 0) = .iface 60 (.pointer (some ⟨bb, 0, none⟩))) (h8 : a0.eval (.tmp 8) = .slice (some ⟨gp, 0, none⟩) N N) (h13 : a0.eval (.tmp 13) = twoV d) (h14 : a0.eval (.tmp 14) = .int .i64 (i : Int)) (h18 : a0.eval (.tmp 18) = .int .i64 (j : Int)) (h17 : a0.eval (.tmp 17) = .int .i64 (h : Int)) (h10 : a0.eval (.tmp 10) = .map (some mm)) (h20 : a0.eval (.tmp 20) = .iface 284 (.pointer (some ⟨it_k, 0, none⟩)))
    (hbd : Bd w0 bb lo (pairsOf A B) nv ns ev es) (hlo : lo ≤ w0.heap.size) (hes : es.length ≤ 100000) (hP : PAt w0 gp A B N) (hd : Two w0 d nA nB) (hA : nA ≤ 1000) (hB : nB ≤ 1000) (hitk : Iter w0 it_k g_k (l_k.map nodeV) (t_k + 1)) (hlk : l_k[t_k]? = some u) (hmm : ColAt w0 mm X.zipIdx) (hnmm : X.Nodup) (huk : X[k]? = some u)
    (hx1 : i < nA) (hy1 : j < nB) (hq1 : i * nB + j = q1) (hN1 : q1 < N) (hp1 : (pairsOf A B)[q1]? = some p1) (hi1 : (pairsOf A B).idxOf p1 = q1)
    (hx2 : h < nA) (hy2 : k < nB) (hq2 : h * nB + k = q2) (hN2 : q2 < N) (hp2 : (pairsOf A B)[q2]? = some p2) (hi2 : (pairsOf A B).idxOf p2 = q2)
    (hQ : ∀ f v w, (∃ ev', Bd w bb lo (pairsOf A B) nv ns ev' (es ++ [(p1, p2)]) ∧ (ev'.ownBlock = ev.ownBlock ∨ ∃ g, ev'.ownBlock = some g ∧ w0.heap.size ≤ g) ∧ Keep (fun b => b = bb ∨ ev.ownBlock = some b) w0 w) → Q .normal ((putAll ops_tens f 31 a0).put (some 119) v) w) :
    (Code.region id ops_tens true).wp Tryz.prog Q a0 w0 := by
  generalize hops : ops_tens = ops at *
  conv at hops =>
    lhs
    whnf
  subst hops
  have hpn1 : pnI q1 p1 = pn (pairsOf A B) p1 := by unfold pn; rw [hi1]
  have hpn2 : pnI q2 p2 = pn (pairsOf A B) p2 := by unfold pn; rw [hi2]
  refine wp_region_K (by kernel_rfl) [.eq (.iface 60 (.pointer (some ⟨bb, 0, none⟩))), .eq (.iface 60 (.pointer (some ⟨bb, 0, none⟩))), .eq (.slice (some ⟨gp, 0, none⟩) N N), .eq (.int .i64 (i : Int)), .eq (.int .i64 (j : Int)), .two i j, .eq (twoV d), .eq (.int .i64 (q1 : Int)), .eq (.pointer (some ⟨gp, q1 * 3, none⟩)), .eq (pnA q1 p1), .eq (pn (pairsOf A B) p1), .eq (.slice (some ⟨gp, 0, none⟩) N N), .eq (.int .i64 (h : Int)), .eq (.map (some mm)), .eq (.iface 284 (.pointer (some ⟨it_k, 0, none⟩))), .eq (nodeV u), .eq (.int .i64 u), .eq (.int .i64 (k : Int)), .two h k, .eq (twoV d), .eq (.int .i64 (q2 : Int)), .eq (.pointer (some ⟨gp, q2 * 3, none⟩)), .eq (pnA q2 p2), .eq (pn (pairsOf A B) p2), .eq (.func (.method "NewEdge") #[.iface 60 (.pointer (some ⟨bb, 0, none⟩))] #[]), .eq (.func (.method "NewEdge") #[.iface 60 (.pointer (some ⟨bb, 0, none⟩))] #[]), .eq (.iface 60 (.pointer (some ⟨bb, 0, none⟩))), .eq (edgeV (pairsOf A B) (p1, p2)), .eq (.func (.method "SetEdge") #[.iface 60 (.pointer (some ⟨bb, 0, none⟩))] #[]), .eq (.func (.method "SetEdge") #[.iface 60 (.pointer (some ⟨bb, 0, none⟩))] #[]), .eq (.iface 60 (.pointer (some ⟨bb, 0, none⟩)))] 31 (by kernel_rfl) (by rw [hsz]; kernel_rfl) (by kernel_rfl) ?_ ?_
  · intro j hj a w hk hs hv
    replace hs : ∀ t, isDst _ t = false → a.eval (.tmp t) = a0.eval (.tmp t) := hs
    obtain ⟨r, rfl⟩ : ∃ r, r = j := ⟨_, rfl⟩
    match r, hj, hv with
    | 0, _, hv =>
      have e0 := (hs 0 (by kernel_rfl)).trans h0
      exact OwesK.move rfl rfl (.inl rfl) e0 rfl
    | 1, _, hv =>
      have e0 := (hs 0 (by kernel_rfl)).trans h0
      exact OwesK.move rfl rfl (.inl rfl) e0 rfl
    | 2, _, hv =>
      have e8 := (hs 8 (by kernel_rfl)).trans h8
      exact OwesK.move rfl rfl (.inl rfl) e8 rfl
    | 3, _, hv =>
      have e14 := (hs 14 (by kernel_rfl)).trans h14
      exact OwesK.move rfl rfl (.inl rfl) e14 rfl
    | 4, _, hv =>
      have e18 := (hs 18 (by kernel_rfl)).trans h18
      exact OwesK.move rfl rfl (.inl rfl) e18 rfl
    | 5, _, hv =>
      have e91 : a.eval (.tmp 91) = .int .i64 (i : Int) := hv 3 (oD (by kernel_rfl))
      have e92 : a.eval (.tmp 92) = .int .i64 (j : Int) := hv 4 (oD (by kernel_rfl))
      exact OwesK.two (t := 0) rfl rfl rfl e91 e92 hk.size (bs2 _ _ w) rfl rfl
    | 6, _, hv =>
      have e13 := (hs 13 (by kernel_rfl)).trans h13
      exact OwesK.move rfl rfl (.inl rfl) e13 rfl
    | 7, _, hv =>
      obtain ⟨b93, e93, m93, _⟩ : ∃ b, a.eval (.tmp 93) = twoV b ∧ Two w b (i : Int) (j : Int) ∧ w0.heap.size ≤ b := hv 5 (oD (by kernel_rfl))
      have e94 : a.eval (.tmp 94) = twoV d := hv 6 (oD (by kernel_rfl))
      refine OwesK.fn rfl rfl rfl rfl (args := #[twoV b93, twoV d]) (by simp only [List.map_toArray, List.map_cons, List.map_nil, e93, e94]) (cfIdx _ _ w) ((idxFor_spec m93 (hd.keepF hk) hx1 hy1 hA hB).mono ?_)
      rintro e w' ⟨rfl, rfl⟩
      refine ⟨_, rfl, ?_, Keep.refl _ _⟩
      show Value.int .i64 ((i * nB + j : Nat) : Int) = .int .i64 (q1 : Int)
      rw [hq1]
    | 8, _, hv =>
      have e90 : a.eval (.tmp 90) = .slice (some ⟨gp, 0, none⟩) N N := hv 2 (oD (by kernel_rfl))
      have e95 : a.eval (.tmp 95) = .int .i64 (q1 : Int) := hv 7 (oD (by kernel_rfl))
      exact OwesK.iaddr rfl rfl rfl e90 e95 (iaP gp _ q1 hN1 w) rfl
    | 9, _, hv =>
      have e96 : a.eval (.tmp 96) = .pointer (some ⟨gp, q1 * 3, none⟩) := hv 8 (oD (by kernel_rfl))
      exact OwesK.load rfl rfl rfl e96 (ldP (hP.keep hk (fun h => h)) hN1 hp1) rfl
    | 10, _, hv =>
      have e97 : a.eval (.tmp 97) = pnA q1 p1 := hv 9 (oD (by kernel_rfl))
      exact OwesK.mki (v := pn (pairsOf A B) p1) rfl rfl rfl e97 (by rw [← hpn1]; exact mkiP q1 p1 w) rfl
    | 11, _, hv =>
      have e8 := (hs 8 (by kernel_rfl)).trans h8
      exact OwesK.move rfl rfl (.inl rfl) e8 rfl
    | 12, _, hv =>
      have e17 := (hs 17 (by kernel_rfl)).trans h17
      exact OwesK.move rfl rfl (.inl rfl) e17 rfl
    | 13, _, hv =>
      have e10 := (hs 10 (by kernel_rfl)).trans h10
      exact OwesK.move rfl rfl (.inl rfl) e10 rfl
    | 14, _, hv =>
      have e20 := (hs 20 (by kernel_rfl)).trans h20
      exact OwesK.move rfl rfl (.inl rfl) e20 rfl
    | 15, _, hv =>
      have e102 : a.eval (.tmp 102) = .iface 284 (.pointer (some ⟨it_k, 0, none⟩)) := hv 14 (oD (by kernel_rfl))
      refine OwesK.meth rfl rfl rfl rfl e102 (args := #[]) (by simp) (cmNode it_k w) ((Node_at (hitk.keep hk (fun h => h) (fun h => h)) hlk).mono ?_)
      rintro e w' ⟨rfl, q, rfl⟩
      exact ⟨_, rfl, rfl, (Keep.refl _ w).drewN q⟩
    | 16, _, hv =>
      have e103 : a.eval (.tmp 103) = nodeV u := hv 15 (oD (by kernel_rfl))
      refine OwesK.meth rfl rfl rfl rfl e103 (args := #[]) (by simp) (cmID u w) ((ID_spec _ _).mono ?_)
      rintro e w' ⟨rfl, rfl⟩
      exact ⟨_, rfl, rfl, Keep.refl _ _⟩
    | 17, _, hv =>
      have e101 : a.eval (.tmp 101) = .map (some mm) := hv 13 (oD (by kernel_rfl))
      have e104 : a.eval (.tmp 104) = .int .i64 u := hv 16 (oD (by kernel_rfl))
      exact OwesK.look rfl rfl rfl e101 e104 (lookI (hmm.keepF hk) hnmm huk) rfl
    | 18, _, hv =>
      have e100 : a.eval (.tmp 100) = .int .i64 (h : Int) := hv 12 (oD (by kernel_rfl))
      have e105 : a.eval (.tmp 105) = .int .i64 (k : Int) := hv 17 (oD (by kernel_rfl))
      exact OwesK.two (t := 0) rfl rfl rfl e100 e105 hk.size (bs2 _ _ w) rfl rfl
    | 19, _, hv =>
      have e13 := (hs 13 (by kernel_rfl)).trans h13
      exact OwesK.move rfl rfl (.inl rfl) e13 rfl
    | 20, _, hv =>
      obtain ⟨b106, e106, m106, _⟩ : ∃ b, a.eval (.tmp 106) = twoV b ∧ Two w b (h : Int) (k : Int) ∧ w0.heap.size ≤ b := hv 18 (oD (by kernel_rfl))
      have e107 : a.eval (.tmp 107) = twoV d := hv 19 (oD (by kernel_rfl))
      refine OwesK.fn rfl rfl rfl rfl (args := #[twoV b106, twoV d]) (by simp only [List.map_toArray, List.map_cons, List.map_nil, e106, e107]) (cfIdx _ _ w) ((idxFor_spec m106 (hd.keepF hk) hx2 hy2 hA hB).mono ?_)
      rintro e w' ⟨rfl, rfl⟩
      refine ⟨_, rfl, ?_, Keep.refl _ _⟩
      show Value.int .i64 ((h * nB + k : Nat) : Int) = .int .i64 (q2 : Int)
      rw [hq2]
    | 21, _, hv =>
      have e99 : a.eval (.tmp 99) = .slice (some ⟨gp, 0, none⟩) N N := hv 11 (oD (by kernel_rfl))
      have e108 : a.eval (.tmp 108) = .int .i64 (q2 : Int) := hv 20 (oD (by kernel_rfl))
      exact OwesK.iaddr rfl rfl rfl e99 e108 (iaP gp _ q2 hN2 w) rfl
    | 22, _, hv =>
      have e109 : a.eval (.tmp 109) = .pointer (some ⟨gp, q2 * 3, none⟩) := hv 21 (oD (by kernel_rfl))
      exact OwesK.load rfl rfl rfl e109 (ldP (hP.keep hk (fun h => h)) hN2 hp2) rfl
    | 23, _, hv =>
      have e110 : a.eval (.tmp 110) = pnA q2 p2 := hv 22 (oD (by kernel_rfl))
      exact OwesK.mki (v := pn (pairsOf A B) p2) rfl rfl rfl e110 (by rw [← hpn2]; exact mkiP q2 p2 w) rfl
    | 24, _, hv =>
      have e89 : a.eval (.tmp 89) = .iface 60 (.pointer (some ⟨bb, 0, none⟩)) := hv 1 (oD (by kernel_rfl))
      exact OwesK.mkf rfl rfl rfl e89 rfl
    | 25, _, hv =>
      have e112 : a.eval (.tmp 112) = .func (.method "NewEdge") #[.iface 60 (.pointer (some ⟨bb, 0, none⟩))] #[] := hv 24 (oD (by kernel_rfl))
      exact OwesK.nilc rfl rfl rfl e112 (nilB bb w) rfl
    | 26, _, hv =>
      have e89 : a.eval (.tmp 89) = .iface 60 (.pointer (some ⟨bb, 0, none⟩)) := hv 1 (oD (by kernel_rfl))
      exact OwesK.move rfl rfl (.inl rfl) e89 rfl
    | 27, _, hv =>
      have e114 : a.eval (.tmp 114) = .iface 60 (.pointer (some ⟨bb, 0, none⟩)) := hv 26 (oD (by kernel_rfl))
      have e98 : a.eval (.tmp 98) = pn (pairsOf A B) p1 := hv 10 (oD (by kernel_rfl))
      have e111 : a.eval (.tmp 111) = pn (pairsOf A B) p2 := hv 23 (oD (by kernel_rfl))
      refine OwesK.meth rfl rfl rfl rfl e114 (args := #[pn (pairsOf A B) p1, pn (pairsOf A B) p2]) (by simp only [List.map_toArray, List.map_cons, List.map_nil, e98, e111]) (cmNew bb _ _ w) ((newEdge_spec _ _ _ _ _).mono ?_)
      rintro e w' ⟨rfl, rfl⟩
      exact ⟨_, rfl, rfl, Keep.refl _ _⟩
    | 28, _, hv =>
      have e88 : a.eval (.tmp 88) = .iface 60 (.pointer (some ⟨bb, 0, none⟩)) := hv 0 (oD (by kernel_rfl))
      exact OwesK.mkf rfl rfl rfl e88 rfl
    | 29, _, hv =>
      have e116 : a.eval (.tmp 116) = .func (.method "SetEdge") #[.iface 60 (.pointer (some ⟨bb, 0, none⟩))] #[] := hv 28 (oD (by kernel_rfl))
      exact OwesK.nilc rfl rfl rfl e116 (nilS bb w) rfl
    | 30, _, hv =>
      have e88 : a.eval (.tmp 88) = .iface 60 (.pointer (some ⟨bb, 0, none⟩)) := hv 0 (oD (by kernel_rfl))
      exact OwesK.move rfl rfl (.inl rfl) e88 rfl
    | r + 31, hj, _ => exact absurd hj (by omega)
  · intro f w hk hv
    refine wpOp_meth (r := .iface 60 (.pointer (some ⟨bb, 0, none⟩))) (args := #[edgeV (pairsOf A B) (p1, p2)]) rfl rfl rfl rfl ?hr ?ha (cmSet bb _ w) ((setEdge_spec (hbd.keepF hk) (p1, p2) (Nat.le_trans hlo hk.size) hes).mono ?hc)
    case hr => exact (putAll_ev (m := 122) (by kernel_rfl) f a0 (by omega) (j := 30) (by decide) (by kernel_rfl)).trans (hv 30 (by decide))
    case ha =>
      simp only [List.map_toArray, List.map_cons, List.map_nil]
      rw [(putAll_ev (m := 122) (by kernel_rfl) f a0 (by omega) (j := 27) (by decide) (by kernel_rfl)).trans (hv 27 (by decide))]
    rintro e w' ⟨rfl, ev', r1, r2, r3⟩
    refine ⟨.tuple #[], rfl, ?_⟩
    refine hQ f (.tuple #[]) w' ⟨ev', r1, ?_, (hk.mono (fun _ _ h => h.elim)).trans r3 (fun _ _ h => h)⟩
    rcases r2 with r2 | ⟨g, r2, r4⟩
    · exact .inl r2
    · exact .inr ⟨g, r2, Nat.le_trans hk.size r4⟩
noncomputable def ops_strB : Array Oper := (Tryz.f14.body.bind (regionOf 18)).getD #[]
theorem putAll_strB (f : Nat → Value) (a : Act) : putAll ops_strB f 31 a = (((((((((((((((((((((((((((((((a.put (some 77) (f 0)).put (some 78) (f 1)).put (some 79) (f 2)).put (some 80) (f 3)).put (some 81) (f 4)).put (some 82) (f 5)).put (some 83) (f 6)).put (some 84) (f 7)).put (some 85) (f 8)).put (some 86) (f 9)).put (some 87) (f 10)).put (some 88) (f 11)).put (some 89) (f 12)).put (some 90) (f 13)).put (some 91) (f 14)).put (some 92) (f 15)).put (some 93) (f 16)).put (some 94) (f 17)).put (some 95) (f 18)).put (some 96) (f 19)).put (some 97) (f 20)).put (some 98) (f 21)).put (some 99) (f 22)).put (some 100) (f 23)).put (some 101) (f 24)).put (some 102) (f 25)).put (some 103) (f 26)).put (some 104) (f 27)).put (some 105) (f 28)).put (some 106) (f 29)).put (some 107) (f 30)) := by kernel_rfl
set_option maxHeartbeats 8000000 in
set_option maxRecDepth 20000 in
theorem strB_region {id : Nat} {w0 : World} {a0 : Act} {Q : Exit → Act → World → Prop} {bb lo gp d nA nB N q1 q2 i j k : Nat} {A B : List Int} {p1 p2 : Int × Int} {ns : List (Int × Int)} {nv ev : Value} {es : List Lnk} {it_k g_k t_k : Nat} {l_k : List Int} {u : Int} {mm : Nat} {X : List Int}
    (hsz : a0.tmps.size = 214) (h0 : a0.eval (.tmp 0) = .iface 60 (.pointer (some ⟨bb, 0, none⟩))) (h8 : a0.eval (.tmp 8) = .slice (some ⟨gp, 0, none⟩) N N) (h13 : a0.eval (.tmp 13) = twoV d) (h14 : a0.eval (.tmp 14) = .int .i64 (i : Int)) (h16 : a0.eval (.tmp 16) = .int .i64 (j : Int)) (h10 : a0.eval (.tmp 10) = .map (some mm)) (h18 : a0.eval (.tmp 18) = .iface 284 (.pointer (some ⟨it_k, 0, none⟩)))
    (hbd : Bd w0 bb lo (pairsOf A B) nv ns ev es) (hlo : lo ≤ w0.heap.size) (hes : es.length ≤ 100000) (hP : PAt w0 gp A B N) (hd : Two w0 d nA nB) (hA : nA ≤ 1000) (hB : nB ≤ 1000) (hitk : Iter w0 it_k g_k (l_k.map nodeV) (t_k + 1)) (hlk : l_k[t_k]? = some u) (hmm : ColAt w0 mm X.zipIdx) (hnmm : X.Nodup) (huk : X[k]? = some u)
    (hx1 : i < nA) (hy1 : j < nB) (hq1 : i * nB + j = q1) (hN1 : q1 < N) (hp1 : (pairsOf A B)[q1]? = some p1) (hi1 : (pairsOf A B).idxOf p1 = q1)
    (hx2 : i < nA) (hy2 : k < nB) (hq2 : i * nB + k = q2) (hN2 : q2 < N) (hp2 : (pairsOf A B)[q2]? = some p2) (hi2 : (pairsOf A B).idxOf p2 = q2)
    (hQ : ∀ f v w, (∃ ev', Bd w bb lo (pairsOf A B) nv ns ev' (es ++ [(p1, p2)]) ∧ (ev'.ownBlock = ev.ownBlock ∨ ∃ g, ev'.ownBlock = some g ∧ w0.heap.size ≤ g) ∧ Keep (fun b => b = bb ∨ ev.ownBlock = some b) w0 w) → Q .normal ((putAll ops_strB f 31 a0).put (some 108) v) w) :
    (Code.region id ops_strB true).wp Tryz.prog Q a0 w0 := by
  generalize hops : ops_strB = ops at *
  conv at hops =>
    lhs
    whnf
  subst hops
  have hpn1 : pnI q1 p1 = pn (pairsOf A B) p1 := by unfold pn; rw [hi1]
  have hpn2 : pnI q2 p2 = pn (pairsOf A B) p2 := by unfold pn; rw [hi2]
  refine wp_region_K (by kernel_rfl) [.eq (.iface 60 (.pointer (some ⟨bb, 0, none⟩))), .eq (.iface 60 (.pointer (some ⟨bb, 0, none⟩))), .eq (.slice (some ⟨gp, 0, none⟩) N N), .eq (.int .i64 (i : Int)), .eq (.int .i64 (j : Int)), .two i j, .eq (twoV d), .eq (.int .i64 (q1 : Int)), .eq (.pointer (some ⟨gp, q1 * 3, none⟩)), .eq (pnA q1 p1), .eq (pn (pairsOf A B) p1), .eq (.slice (some ⟨gp, 0, none⟩) N N), .eq (.int .i64 (i : Int)), .eq (.map (some mm)), .eq (.iface 284 (.pointer (some ⟨it_k, 0, none⟩))), .eq (nodeV u), .eq (.int .i64 u), .eq (.int .i64 (k : Int)), .two i k, .eq (twoV d), .eq (.int .i64 (q2 : Int)), .eq (.pointer (some ⟨gp, q2 * 3, none⟩)), .eq (pnA q2 p2), .eq (pn (pairsOf A B) p2), .eq (.func (.method "NewEdge") #[.iface 60 (.pointer (some ⟨bb, 0, none⟩))] #[]), .eq (.func (.method "NewEdge") #[.iface 60 (.pointer (some ⟨bb, 0, none⟩))] #[]), .eq (.iface 60 (.pointer (some ⟨bb, 0, none⟩))), .eq (edgeV (pairsOf A B) (p1, p2)), .eq (.func (.method "SetEdge") #[.iface 60 (.pointer (some ⟨bb, 0, none⟩))] #[]), .eq (.func (.method "SetEdge") #[.iface 60 (.pointer (some ⟨bb, 0, none⟩))] #[]), .eq (.iface 60 (.pointer (some ⟨bb, 0, none⟩)))] 31 (by kernel_rfl) (by rw [hsz]; kernel_rfl) (by kernel_rfl) ?_ ?_
  · intro j hj a w hk hs hv
    replace hs : ∀ t, isDst _ t = false → a.eval (.tmp t) = a0.eval (.tmp t) := hs
    obtain ⟨r, rfl⟩ : ∃ r, r = j := ⟨_, rfl⟩
    match r, hj, hv with
    | 0, _, hv =>
      have e0 := (hs 0 (by kernel_rfl)).trans h0
      exact OwesK.move rfl rfl (.inl rfl) e0 rfl
    | 1, _, hv =>
      have e0 := (hs 0 (by kernel_rfl)).trans h0
      exact OwesK.move rfl rfl (.inl rfl) e0 rfl
    | 2, _, hv =>
      have e8 := (hs 8 (by kernel_rfl)).trans h8
      exact OwesK.move rfl rfl (.inl rfl) e8 rfl
    | 3, _, hv =>
      have e14 := (hs 14 (by kernel_rfl)).trans h14
      exact OwesK.move rfl rfl (.inl rfl) e14 rfl
    | 4, _, hv =>
      have e16 := (hs 16 (by kernel_rfl)).trans h16
      exact OwesK.move rfl rfl (.inl rfl) e16 rfl
    | 5, _, hv =>
      have e80 : a.eval (.tmp 80) = .int .i64 (i : Int) := hv 3 (oD (by kernel_rfl))
      have e81 : a.eval (.tmp 81) = .int .i64 (j : Int) := hv 4 (oD (by kernel_rfl))
      exact OwesK.two (t := 0) rfl rfl rfl e80 e81 hk.size (bs2 _ _ w) rfl rfl
    | 6, _, hv =>
      have e13 := (hs 13 (by kernel_rfl)).trans h13
      exact OwesK.move rfl rfl (.inl rfl) e13 rfl
    | 7, _, hv =>
      obtain ⟨b82, e82, m82, _⟩ : ∃ b, a.eval (.tmp 82) = twoV b ∧ Two w b (i : Int) (j : Int) ∧ w0.heap.size ≤ b := hv 5 (oD (by kernel_rfl))
      have e83 : a.eval (.tmp 83) = twoV d := hv 6 (oD (by kernel_rfl))
      refine OwesK.fn rfl rfl rfl rfl (args := #[twoV b82, twoV d]) (by simp only [List.map_toArray, List.map_cons, List.map_nil, e82, e83]) (cfIdx _ _ w) ((idxFor_spec m82 (hd.keepF hk) hx1 hy1 hA hB).mono ?_)
      rintro e w' ⟨rfl, rfl⟩
      refine ⟨_, rfl, ?_, Keep.refl _ _⟩
      show Value.int .i64 ((i * nB + j : Nat) : Int) = .int .i64 (q1 : Int)
      rw [hq1]
    | 8, _, hv =>
      have e79 : a.eval (.tmp 79) = .slice (some ⟨gp, 0, none⟩) N N := hv 2 (oD (by kernel_rfl))
      have e84 : a.eval (.tmp 84) = .int .i64 (q1 : Int) := hv 7 (oD (by kernel_rfl))
      exact OwesK.iaddr rfl rfl rfl e79 e84 (iaP gp _ q1 hN1 w) rfl
    | 9, _, hv =>
      have e85 : a.eval (.tmp 85) = .pointer (some ⟨gp, q1 * 3, none⟩) := hv 8 (oD (by kernel_rfl))
      exact OwesK.load rfl rfl rfl e85 (ldP (hP.keep hk (fun h => h)) hN1 hp1) rfl
    | 10, _, hv =>
      have e86 : a.eval (.tmp 86) = pnA q1 p1 := hv 9 (oD (by kernel_rfl))
      exact OwesK.mki (v := pn (pairsOf A B) p1) rfl rfl rfl e86 (by rw [← hpn1]; exact mkiP q1 p1 w) rfl
    | 11, _, hv =>
      have e8 := (hs 8 (by kernel_rfl)).trans h8
      exact OwesK.move rfl rfl (.inl rfl) e8 rfl
    | 12, _, hv =>
      have e14 := (hs 14 (by kernel_rfl)).trans h14
      exact OwesK.move rfl rfl (.inl rfl) e14 rfl
    | 13, _, hv =>
      have e10 := (hs 10 (by kernel_rfl)).trans h10
      exact OwesK.move rfl rfl (.inl rfl) e10 rfl
    | 14, _, hv =>
      have e18 := (hs 18 (by kernel_rfl)).trans h18
      exact OwesK.move rfl rfl (.inl rfl) e18 rfl
    | 15, _, hv =>
      have e91 : a.eval (.tmp 91) = .iface 284 (.pointer (some ⟨it_k, 0, none⟩)) := hv 14 (oD (by kernel_rfl))
      refine OwesK.meth rfl rfl rfl rfl e91 (args := #[]) (by simp) (cmNode it_k w) ((Node_at (hitk.keep hk (fun h => h) (fun h => h)) hlk).mono ?_)
      rintro e w' ⟨rfl, q, rfl⟩
      exact ⟨_, rfl, rfl, (Keep.refl _ w).drewN q⟩
    | 16, _, hv =>
      have e92 : a.eval (.tmp 92) = nodeV u := hv 15 (oD (by kernel_rfl))
      refine OwesK.meth rfl rfl rfl rfl e92 (args := #[]) (by simp) (cmID u w) ((ID_spec _ _).mono ?_)
      rintro e w' ⟨rfl, rfl⟩
      exact ⟨_, rfl, rfl, Keep.refl _ _⟩
    | 17, _, hv =>
      have e90 : a.eval (.tmp 90) = .map (some mm) := hv 13 (oD (by kernel_rfl))
      have e93 : a.eval (.tmp 93) = .int .i64 u := hv 16 (oD (by kernel_rfl))
      exact OwesK.look rfl rfl rfl e90 e93 (lookI (hmm.keepF hk) hnmm huk) rfl
    | 18, _, hv =>
      have e89 : a.eval (.tmp 89) = .int .i64 (i : Int) := hv 12 (oD (by kernel_rfl))
      have e94 : a.eval (.tmp 94) = .int .i64 (k : Int) := hv 17 (oD (by kernel_rfl))
      exact OwesK.two (t := 0) rfl rfl rfl e89 e94 hk.size (bs2 _ _ w) rfl rfl
    | 19, _, hv =>
      have e13 := (hs 13 (by kernel_rfl)).trans h13
      exact OwesK.move rfl rfl (.inl rfl) e13 rfl
    | 20, _, hv =>
      obtain ⟨b95, e95, m95, _⟩ : ∃ b, a.eval (.tmp 95) = twoV b ∧ Two w b (i : Int) (k : Int) ∧ w0.heap.size ≤ b := hv 18 (oD (by kernel_rfl))
      have e96 : a.eval (.tmp 96) = twoV d := hv 19 (oD (by kernel_rfl))
      refine OwesK.fn rfl rfl rfl rfl (args := #[twoV b95, twoV d]) (by simp only [List.map_toArray, List.map_cons, List.map_nil, e95, e96]) (cfIdx _ _ w) ((idxFor_spec m95 (hd.keepF hk) hx2 hy2 hA hB).mono ?_)
      rintro e w' ⟨rfl, rfl⟩
      refine ⟨_, rfl, ?_, Keep.refl _ _⟩
      show Value.int .i64 ((i * nB + k : Nat) : Int) = .int .i64 (q2 : Int)
      rw [hq2]
    | 21, _, hv =>
      have e88 : a.eval (.tmp 88) = .slice (some ⟨gp, 0, none⟩) N N := hv 11 (oD (by kernel_rfl))
      have e97 : a.eval (.tmp 97) = .int .i64 (q2 : Int) := hv 20 (oD (by kernel_rfl))
      exact OwesK.iaddr rfl rfl rfl e88 e97 (iaP gp _ q2 hN2 w) rfl
    | 22, _, hv =>
      have e98 : a.eval (.tmp 98) = .pointer (some ⟨gp, q2 * 3, none⟩) := hv 21 (oD (by kernel_rfl))
      exact OwesK.load rfl rfl rfl e98 (ldP (hP.keep hk (fun h => h)) hN2 hp2) rfl
    | 23, _, hv =>
      have e99 : a.eval (.tmp 99) = pnA q2 p2 := hv 22 (oD (by kernel_rfl))
      exact OwesK.mki (v := pn (pairsOf A B) p2) rfl rfl rfl e99 (by rw [← hpn2]; exact mkiP q2 p2 w) rfl
    | 24, _, hv =>
      have e78 : a.eval (.tmp 78) = .iface 60 (.pointer (some ⟨bb, 0, none⟩)) := hv 1 (oD (by kernel_rfl))
      exact OwesK.mkf rfl rfl rfl e78 rfl
    | 25, _, hv =>
      have e101 : a.eval (.tmp 101) = .func (.method "NewEdge") #[.iface 60 (.pointer (some ⟨bb, 0, none⟩))] #[] := hv 24 (oD (by kernel_rfl))
      exact OwesK.nilc rfl rfl rfl e101 (nilB bb w) rfl
    | 26, _, hv =>
      have e78 : a.eval (.tmp 78) = .iface 60 (.pointer (some ⟨bb, 0, none⟩)) := hv 1 (oD (by kernel_rfl))
      exact OwesK.move rfl rfl (.inl rfl) e78 rfl
    | 27, _, hv =>
      have e103 : a.eval (.tmp 103) = .iface 60 (.pointer (some ⟨bb, 0, none⟩)) := hv 26 (oD (by kernel_rfl))
      have e87 : a.eval (.tmp 87) = pn (pairsOf A B) p1 := hv 10 (oD (by kernel_rfl))
      have e100 : a.eval (.tmp 100) = pn (pairsOf A B) p2 := hv 23 (oD (by kernel_rfl))
      refine OwesK.meth rfl rfl rfl rfl e103 (args := #[pn (pairsOf A B) p1, pn (pairsOf A B) p2]) (by simp only [List.map_toArray, List.map_cons, List.map_nil, e87, e100]) (cmNew bb _ _ w) ((newEdge_spec _ _ _ _ _).mono ?_)
      rintro e w' ⟨rfl, rfl⟩
      exact ⟨_, rfl, rfl, Keep.refl _ _⟩
    | 28, _, hv =>
      have e77 : a.eval (.tmp 77) = .iface 60 (.pointer (some ⟨bb, 0, none⟩)) := hv 0 (oD (by kernel_rfl))
      exact OwesK.mkf rfl rfl rfl e77 rfl
    | 29, _, hv =>
      have e105 : a.eval (.tmp 105) = .func (.method "SetEdge") #[.iface 60 (.pointer (some ⟨bb, 0, none⟩))] #[] := hv 28 (oD (by kernel_rfl))
      exact OwesK.nilc rfl rfl rfl e105 (nilS bb w) rfl
    | 30, _, hv =>
      have e77 : a.eval (.tmp 77) = .iface 60 (.pointer (some ⟨bb, 0, none⟩)) := hv 0 (oD (by kernel_rfl))
      exact OwesK.move rfl rfl (.inl rfl) e77 rfl
    | r + 31, hj, _ => exact absurd hj (by omega)
  · intro f w hk hv
    refine wpOp_meth (r := .iface 60 (.pointer (some ⟨bb, 0, none⟩))) (args := #[edgeV (pairsOf A B) (p1, p2)]) rfl rfl rfl rfl ?hr ?ha (cmSet bb _ w) ((setEdge_spec (hbd.keepF hk) (p1, p2) (Nat.le_trans hlo hk.size) hes).mono ?hc)
    case hr => exact (putAll_ev (m := 214) (by kernel_rfl) f a0 (by omega) (j := 30) (by decide) (by kernel_rfl)).trans (hv 30 (by decide))
    case ha =>
      simp only [List.map_toArray, List.map_cons, List.map_nil]
      rw [(putAll_ev (m := 214) (by kernel_rfl) f a0 (by omega) (j := 27) (by decide) (by kernel_rfl)).trans (hv 27 (by decide))]
    rintro e w' ⟨rfl, ev', r1, r2, r3⟩
    refine ⟨.tuple #[], rfl, ?_⟩
    refine hQ f (.tuple #[]) w' ⟨ev', r1, ?_, (hk.mono (fun _ _ h => h.elim)).trans r3 (fun _ _ h => h)⟩
    rcases r2 with r2 | ⟨g, r2, r4⟩
    · exact .inl r2
    · exact .inr ⟨g, r2, Nat.le_trans hk.size r4⟩
noncomputable def ops_strA : Array Oper := (Tryz.f14.body.bind (regionOf 21)).getD #[]
theorem putAll_strA (f : Nat → Value) (a : Act) : putAll ops_strA f 31 a = (((((((((((((((((((((((((((((((a.put (some 118) (f 0)).put (some 119) (f 1)).put (some 120) (f 2)).put (some 121) (f 3)).put (some 122) (f 4)).put (some 123) (f 5)).put (some 124) (f 6)).put (some 125) (f 7)).put (some 126) (f 8)).put (some 127) (f 9)).put (some 128) (f 10)).put (some 129) (f 11)).put (some 130) (f 12)).put (some 131) (f 13)).put (some 132) (f 14)).put (some 133) (f 15)).put (some 134) (f 16)).put (some 135) (f 17)).put (some 136) (f 18)).put (some 137) (f 19)).put (some 138) (f 20)).put (some 139) (f 21)).put (some 140) (f 22)).put (some 141) (f 23)).put (some 142) (f 24)).put (some 143) (f 25)).put (some 144) (f 26)).put (some 145) (f 27)).put (some 146) (f 28)).put (some 147) (f 29)).put (some 148) (f 30)) := by kernel_rfl
set_option maxHeartbeats 8000000 in
set_option maxRecDepth 20000 in
theorem strA_region {id : Nat} {w0 : World} {a0 : Act} {Q : Exit → Act → World → Prop} {bb lo gp d nA nB N q1 q2 i j k : Nat} {A B : List Int} {p1 p2 : Int × Int} {ns : List (Int × Int)} {nv ev : Value} {es : List Lnk} {it_k g_k t_k : Nat} {l_k : List Int} {u : Int} {mm : Nat} {X : List Int}
    (hsz : a0.tmps.size = 214) (h0 : a0.eval (.tmp 0) = .iface 60 (.pointer (some ⟨bb, 0, none⟩))) (h8 : a0.eval (.tmp 8) = .slice (some ⟨gp, 0, none⟩) N N) (h13 : a0.eval (.tmp 13) = twoV d) (h14 : a0.eval (.tmp 14) = .int .i64 (i : Int)) (h16 : a0.eval (.tmp 16) = .int .i64 (j : Int)) (h9 : a0.eval (.tmp 9) = .map (some mm)) (h19 : a0.eval (.tmp 19) = .iface 284 (.pointer (some ⟨it_k, 0, none⟩)))
    (hbd : Bd w0 bb lo (pairsOf A B) nv ns ev es) (hlo : lo ≤ w0.heap.size) (hes : es.length ≤ 100000) (hP : PAt w0 gp A B N) (hd : Two w0 d nA nB) (hA : nA ≤ 1000) (hB : nB ≤ 1000) (hitk : Iter w0 it_k g_k (l_k.map nodeV) (t_k + 1)) (hlk : l_k[t_k]? = some u) (hmm : ColAt w0 mm X.zipIdx) (hnmm : X.Nodup) (huk : X[k]? = some u)
    (hx1 : i < nA) (hy1 : j < nB) (hq1 : i * nB + j = q1) (hN1 : q1 < N) (hp1 : (pairsOf A B)[q1]? = some p1) (hi1 : (pairsOf A B).idxOf p1 = q1)
    (hx2 : k < nA) (hy2 : j < nB) (hq2 : k * nB + j = q2) (hN2 : q2 < N) (hp2 : (pairsOf A B)[q2]? = some p2) (hi2 : (pairsOf A B).idxOf p2 = q2)
    (hQ : ∀ f v w, (∃ ev', Bd w bb lo (pairsOf A B) nv ns ev' (es ++ [(p1, p2)]) ∧ (ev'.ownBlock = ev.ownBlock ∨ ∃ g, ev'.ownBlock = some g ∧ w0.heap.size ≤ g) ∧ Keep (fun b => b = bb ∨ ev.ownBlock = some b) w0 w) → Q .normal ((putAll ops_strA f 31 a0).put (some 149) v) w) :
    (Code.region id ops_strA true).wp Tryz.prog Q a0 w0 := by
  generalize hops : ops_strA = ops at *
  conv at hops =>
    lhs
    whnf
  subst hops
  have hpn1 : pnI q1 p1 = pn (pairsOf A B) p1 := by unfold pn; rw [hi1]
  have hpn2 : pnI q2 p2 = pn (pairsOf A B) p2 := by unfold pn; rw [hi2]
  refine wp_region_K (by kernel_rfl) [.eq (.iface 60 (.pointer (some ⟨bb, 0, none⟩))), .eq (.iface 60 (.pointer (some ⟨bb, 0, none⟩))), .eq (.slice (some ⟨gp, 0, none⟩) N N), .eq (.int .i64 (i : Int)), .eq (.int .i64 (j : Int)), .two i j, .eq (twoV d), .eq (.int .i64 (q1 : Int)), .eq (.pointer (some ⟨gp, q1 * 3, none⟩)), .eq (pnA q1 p1), .eq (pn (pairsOf A B) p1), .eq (.slice (some ⟨gp, 0, none⟩) N N), .eq (.map (some mm)), .eq (.iface 284 (.pointer (some ⟨it_k, 0, none⟩))), .eq (nodeV u), .eq (.int .i64 u), .eq (.int .i64 (k : Int)), .eq (.int .i64 (j : Int)), .two k j, .eq (twoV d), .eq (.int .i64 (q2 : Int)), .eq (.pointer (some ⟨gp, q2 * 3, none⟩)), .eq (pnA q2 p2), .eq (pn (pairsOf A B) p2), .eq (.func (.method "NewEdge") #[.iface 60 (.pointer (some ⟨bb, 0, none⟩))] #[]), .eq (.func (.method "NewEdge") #[.iface 60 (.pointer (some ⟨bb, 0, none⟩))] #[]), .eq (.iface 60 (.pointer (some ⟨bb, 0, none⟩))), .eq (edgeV (pairsOf A B) (p1, p2)), .eq (.func (.method "SetEdge") #[.iface 60 (.pointer (some ⟨bb, 0, none⟩))] #[]), .eq (.func (.method "SetEdge") #[.iface 60 (.pointer (some ⟨bb, 0, none⟩))] #[]), .eq (.iface 60 (.pointer (some ⟨bb, 0, none⟩)))] 31 (by kernel_rfl) (by rw [hsz]; kernel_rfl) (by kernel_rfl) ?_ ?_
  · intro j hj a w hk hs hv
    replace hs : ∀ t, isDst _ t = false → a.eval (.tmp t) = a0.eval (.tmp t) := hs
    obtain ⟨r, rfl⟩ : ∃ r, r = j := ⟨_, rfl⟩
    match r, hj, hv with
    | 0, _, hv =>
      have e0 := (hs 0 (by kernel_rfl)).trans h0
      exact OwesK.move rfl rfl (.inl rfl) e0 rfl
    | 1, _, hv =>
      have e0 := (hs 0 (by kernel_rfl)).trans h0
      exact OwesK.move rfl rfl (.inl rfl) e0 rfl
    | 2, _, hv =>
      have e8 := (hs 8 (by kernel_rfl)).trans h8
      exact OwesK.move rfl rfl (.inl rfl) e8 rfl
    | 3, _, hv =>
      have e14 := (hs 14 (by kernel_rfl)).trans h14
      exact OwesK.move rfl rfl (.inl rfl) e14 rfl
    | 4, _, hv =>
      have e16 := (hs 16 (by kernel_rfl)).trans h16
      exact OwesK.move rfl rfl (.inl rfl) e16 rfl
    | 5, _, hv =>
      have e121 : a.eval (.tmp 121) = .int .i64 (i : Int) := hv 3 (oD (by kernel_rfl))
      have e122 : a.eval (.tmp 122) = .int .i64 (j : Int) := hv 4 (oD (by kernel_rfl))
      exact OwesK.two (t := 0) rfl rfl rfl e121 e122 hk.size (bs2 _ _ w) rfl rfl
    | 6, _, hv =>
      have e13 := (hs 13 (by kernel_rfl)).trans h13
      exact OwesK.move rfl rfl (.inl rfl) e13 rfl
    | 7, _, hv =>
      obtain ⟨b123, e123, m123, _⟩ : ∃ b, a.eval (.tmp 123) = twoV b ∧ Two w b (i : Int) (j : Int) ∧ w0.heap.size ≤ b := hv 5 (oD (by kernel_rfl))
      have e124 : a.eval (.tmp 124) = twoV d := hv 6 (oD (by kernel_rfl))
      refine OwesK.fn rfl rfl rfl rfl (args := #[twoV b123, twoV d]) (by simp only [List.map_toArray, List.map_cons, List.map_nil, e123, e124]) (cfIdx _ _ w) ((idxFor_spec m123 (hd.keepF hk) hx1 hy1 hA hB).mono ?_)
      rintro e w' ⟨rfl, rfl⟩
      refine ⟨_, rfl, ?_, Keep.refl _ _⟩
      show Value.int .i64 ((i * nB + j : Nat) : Int) = .int .i64 (q1 : Int)
      rw [hq1]
    | 8, _, hv =>
      have e120 : a.eval (.tmp 120) = .slice (some ⟨gp, 0, none⟩) N N := hv 2 (oD (by kernel_rfl))
      have e125 : a.eval (.tmp 125) = .int .i64 (q1 : Int) := hv 7 (oD (by kernel_rfl))
      exact OwesK.iaddr rfl rfl rfl e120 e125 (iaP gp _ q1 hN1 w) rfl
    | 9, _, hv =>
      have e126 : a.eval (.tmp 126) = .pointer (some ⟨gp, q1 * 3, none⟩) := hv 8 (oD (by kernel_rfl))
      exact OwesK.load rfl rfl rfl e126 (ldP (hP.keep hk (fun h => h)) hN1 hp1) rfl
    | 10, _, hv =>
      have e127 : a.eval (.tmp 127) = pnA q1 p1 := hv 9 (oD (by kernel_rfl))
      exact OwesK.mki (v := pn (pairsOf A B) p1) rfl rfl rfl e127 (by rw [← hpn1]; exact mkiP q1 p1 w) rfl
    | 11, _, hv =>
      have e8 := (hs 8 (by kernel_rfl)).trans h8
      exact OwesK.move rfl rfl (.inl rfl) e8 rfl
    | 12, _, hv =>
      have e9 := (hs 9 (by kernel_rfl)).trans h9
      exact OwesK.move rfl rfl (.inl rfl) e9 rfl
    | 13, _, hv =>
      have e19 := (hs 19 (by kernel_rfl)).trans h19
      exact OwesK.move rfl rfl (.inl rfl) e19 rfl
    | 14, _, hv =>
      have e131 : a.eval (.tmp 131) = .iface 284 (.pointer (some ⟨it_k, 0, none⟩)) := hv 13 (oD (by kernel_rfl))
      refine OwesK.meth rfl rfl rfl rfl e131 (args := #[]) (by simp) (cmNode it_k w) ((Node_at (hitk.keep hk (fun h => h) (fun h => h)) hlk).mono ?_)
      rintro e w' ⟨rfl, q, rfl⟩
      exact ⟨_, rfl, rfl, (Keep.refl _ w).drewN q⟩
    | 15, _, hv =>
      have e132 : a.eval (.tmp 132) = nodeV u := hv 14 (oD (by kernel_rfl))
      refine OwesK.meth rfl rfl rfl rfl e132 (args := #[]) (by simp) (cmID u w) ((ID_spec _ _).mono ?_)
      rintro e w' ⟨rfl, rfl⟩
      exact ⟨_, rfl, rfl, Keep.refl _ _⟩
    | 16, _, hv =>
      have e130 : a.eval (.tmp 130) = .map (some mm) := hv 12 (oD (by kernel_rfl))
      have e133 : a.eval (.tmp 133) = .int .i64 u := hv 15 (oD (by kernel_rfl))
      exact OwesK.look rfl rfl rfl e130 e133 (lookI (hmm.keepF hk) hnmm huk) rfl
    | 17, _, hv =>
      have e16 := (hs 16 (by kernel_rfl)).trans h16
      exact OwesK.move rfl rfl (.inl rfl) e16 rfl
    | 18, _, hv =>
      have e134 : a.eval (.tmp 134) = .int .i64 (k : Int) := hv 16 (oD (by kernel_rfl))
      have e135 : a.eval (.tmp 135) = .int .i64 (j : Int) := hv 17 (oD (by kernel_rfl))
      exact OwesK.two (t := 0) rfl rfl rfl e134 e135 hk.size (bs2 _ _ w) rfl rfl
    | 19, _, hv =>
      have e13 := (hs 13 (by kernel_rfl)).trans h13
      exact OwesK.move rfl rfl (.inl rfl) e13 rfl
    | 20, _, hv =>
      obtain ⟨b136, e136, m136, _⟩ : ∃ b, a.eval (.tmp 136) = twoV b ∧ Two w b (k : Int) (j : Int) ∧ w0.heap.size ≤ b := hv 18 (oD (by kernel_rfl))
      have e137 : a.eval (.tmp 137) = twoV d := hv 19 (oD (by kernel_rfl))
      refine OwesK.fn rfl rfl rfl rfl (args := #[twoV b136, twoV d]) (by simp only [List.map_toArray, List.map_cons, List.map_nil, e136, e137]) (cfIdx _ _ w) ((idxFor_spec m136 (hd.keepF hk) hx2 hy2 hA hB).mono ?_)
      rintro e w' ⟨rfl, rfl⟩
      refine ⟨_, rfl, ?_, Keep.refl _ _⟩
      show Value.int .i64 ((k * nB + j : Nat) : Int) = .int .i64 (q2 : Int)
      rw [hq2]
    | 21, _, hv =>
      have e129 : a.eval (.tmp 129) = .slice (some ⟨gp, 0, none⟩) N N := hv 11 (oD (by kernel_rfl))
      have e138 : a.eval (.tmp 138) = .int .i64 (q2 : Int) := hv 20 (oD (by kernel_rfl))
      exact OwesK.iaddr rfl rfl rfl e129 e138 (iaP gp _ q2 hN2 w) rfl
    | 22, _, hv =>
      have e139 : a.eval (.tmp 139) = .pointer (some ⟨gp, q2 * 3, none⟩) := hv 21 (oD (by kernel_rfl))
      exact OwesK.load rfl rfl rfl e139 (ldP (hP.keep hk (fun h => h)) hN2 hp2) rfl
    | 23, _, hv =>
      have e140 : a.eval (.tmp 140) = pnA q2 p2 := hv 22 (oD (by kernel_rfl))
      exact OwesK.mki (v := pn (pairsOf A B) p2) rfl rfl rfl e140 (by rw [← hpn2]; exact mkiP q2 p2 w) rfl
    | 24, _, hv =>
      have e119 : a.eval (.tmp 119) = .iface 60 (.pointer (some ⟨bb, 0, none⟩)) := hv 1 (oD (by kernel_rfl))
      exact OwesK.mkf rfl rfl rfl e119 rfl
    | 25, _, hv =>
      have e142 : a.eval (.tmp 142) = .func (.method "NewEdge") #[.iface 60 (.pointer (some ⟨bb, 0, none⟩))] #[] := hv 24 (oD (by kernel_rfl))
      exact OwesK.nilc rfl rfl rfl e142 (nilB bb w) rfl
    | 26, _, hv =>
      have e119 : a.eval (.tmp 119) = .iface 60 (.pointer (some ⟨bb, 0, none⟩)) := hv 1 (oD (by kernel_rfl))
      exact OwesK.move rfl rfl (.inl rfl) e119 rfl
    | 27, _, hv =>
      have e144 : a.eval (.tmp 144) = .iface 60 (.pointer (some ⟨bb, 0, none⟩)) := hv 26 (oD (by kernel_rfl))
      have e128 : a.eval (.tmp 128) = pn (pairsOf A B) p1 := hv 10 (oD (by kernel_rfl))
      have e141 : a.eval (.tmp 141) = pn (pairsOf A B) p2 := hv 23 (oD (by kernel_rfl))
      refine OwesK.meth rfl rfl rfl rfl e144 (args := #[pn (pairsOf A B) p1, pn (pairsOf A B) p2]) (by simp only [List.map_toArray, List.map_cons, List.map_nil, e128, e141]) (cmNew bb _ _ w) ((newEdge_spec _ _ _ _ _).mono ?_)
      rintro e w' ⟨rfl, rfl⟩
      exact ⟨_, rfl, rfl, Keep.refl _ _⟩
    | 28, _, hv =>
      have e118 : a.eval (.tmp 118) = .iface 60 (.pointer (some ⟨bb, 0, none⟩)) := hv 0 (oD (by kernel_rfl))
      exact OwesK.mkf rfl rfl rfl e118 rfl
    | 29, _, hv =>
      have e146 : a.eval (.tmp 146) = .func (.method "SetEdge") #[.iface 60 (.pointer (some ⟨bb, 0, none⟩))] #[] := hv 28 (oD (by kernel_rfl))
      exact OwesK.nilc rfl rfl rfl e146 (nilS bb w) rfl
    | 30, _, hv =>
      have e118 : a.eval (.tmp 118) = .iface 60 (.pointer (some ⟨bb, 0, none⟩)) := hv 0 (oD (by kernel_rfl))
      exact OwesK.move rfl rfl (.inl rfl) e118 rfl
    | r + 31, hj, _ => exact absurd hj (by omega)
  · intro f w hk hv
    refine wpOp_meth (r := .iface 60 (.pointer (some ⟨bb, 0, none⟩))) (args := #[edgeV (pairsOf A B) (p1, p2)]) rfl rfl rfl rfl ?hr ?ha (cmSet bb _ w) ((setEdge_spec (hbd.keepF hk) (p1, p2) (Nat.le_trans hlo hk.size) hes).mono ?hc)
    case hr => exact (putAll_ev (m := 214) (by kernel_rfl) f a0 (by omega) (j := 30) (by decide) (by kernel_rfl)).trans (hv 30 (by decide))
    case ha =>
      simp only [List.map_toArray, List.map_cons, List.map_nil]
      rw [(putAll_ev (m := 214) (by kernel_rfl) f a0 (by omega) (j := 27) (by decide) (by kernel_rfl)).trans (hv 27 (by decide))]
    rintro e w' ⟨rfl, ev', r1, r2, r3⟩
    refine ⟨.tuple #[], rfl, ?_⟩
    refine hQ f (.tuple #[]) w' ⟨ev', r1, ?_, (hk.mono (fun _ _ h => h.elim)).trans r3 (fun _ _ h => h)⟩
    rcases r2 with r2 | ⟨g, r2, r4⟩
    · exact .inl r2
    · exact .inr ⟨g, r2, Nat.le_trans hk.size r4⟩
noncomputable def ops_strAB : Array Oper := (Tryz.f14.body.bind (regionOf 30)).getD #[]
theorem putAll_strAB (f : Nat → Value) (a : Act) : putAll ops_strAB f 35 a = (((((((((((((((((((((((((((((((((((a.put (some 176) (f 0)).put (some 177) (f 1)).put (some 178) (f 2)).put (some 179) (f 3)).put (some 180) (f 4)).put (some 181) (f 5)).put (some 182) (f 6)).put (some 183) (f 7)).put (some 184) (f 8)).put (some 185) (f 9)).put (some 186) (f 10)).put (some 187) (f 11)).put (some 188) (f 12)).put (some 189) (f 13)).put (some 190) (f 14)).put (some 191) (f 15)).put (some 192) (f 16)).put (some 193) (f 17)).put (some 194) (f 18)).put (some 195) (f 19)).put (some 196) (f 20)).put (some 197) (f 21)).put (some 198) (f 22)).put (some 199) (f 23)).put (some 200) (f 24)).put (some 201) (f 25)).put (some 202) (f 26)).put (some 203) (f 27)).put (some 204) (f 28)).put (some 205) (f 29)).put (some 206) (f 30)).put (some 207) (f 31)).put (some 208) (f 32)).put (some 209) (f 33)).put (some 210) (f 34)) := by kernel_rfl
set_option maxHeartbeats 8000000 in
set_option maxRecDepth 20000 in
theorem strAB_region {id : Nat} {w0 : World} {a0 : Act} {Q : Exit → Act → World → Prop} {bb lo gp d nA nB N q1 q2 h i j k : Nat} {A B : List Int} {p1 p2 : Int × Int} {ns : List (Int × Int)} {nv ev : Value} {es : List Lnk} {it_h g_h t_h : Nat} {l_h : List Int} {v1 : Int} {it_k g_k t_k : Nat} {l_k : List Int} {v2 : Int} {m1 : Nat} {X1 : List Int} {m2 : Nat} {X2 : List Int}
    (hsz : a0.tmps.size = 214) (h0 : a0.eval (.tmp 0) = .iface 60 (.pointer (some ⟨bb, 0, none⟩))) (h8 : a0.eval (.tmp 8) = .slice (some ⟨gp, 0, none⟩) N N) (h13 : a0.eval (.tmp 13) = twoV d) (h14 : a0.eval (.tmp 14) = .int .i64 (i : Int)) (h21 : a0.eval (.tmp 21) = .int .i64 (j : Int)) (h9 : a0.eval (.tmp 9) = .map (some m1)) (h20 : a0.eval (.tmp 20) = .iface 284 (.pointer (some ⟨it_h, 0, none⟩))) (h10 : a0.eval (.tmp 10) = .map (some m2)) (h23 : a0.eval (.tmp 23) = .iface 284 (.pointer (some ⟨it_k, 0, none⟩)))
    (hbd : Bd w0 bb lo (pairsOf A B) nv ns ev es) (hlo : lo ≤ w0.heap.size) (hes : es.length ≤ 100000) (hP : PAt w0 gp A B N) (hd : Two w0 d nA nB) (hA : nA ≤ 1000) (hB : nB ≤ 1000) (hith : Iter w0 it_h g_h (l_h.map nodeV) (t_h + 1)) (hlh : l_h[t_h]? = some v1) (hitk : Iter w0 it_k g_k (l_k.map nodeV) (t_k + 1)) (hlk : l_k[t_k]? = some v2) (hm1 : ColAt w0 m1 X1.zipIdx) (hnm1 : X1.Nodup) (huh : X1[h]? = some v1) (hm2 : ColAt w0 m2 X2.zipIdx) (hnm2 : X2.Nodup) (huk : X2[k]? = some v2)
    (hx1 : i < nA) (hy1 : j < nB) (hq1 : i * nB + j = q1) (hN1 : q1 < N) (hp1 : (pairsOf A B)[q1]? = some p1) (hi1 : (pairsOf A B).idxOf p1 = q1)
    (hx2 : h < nA) (hy2 : k < nB) (hq2 : h * nB + k = q2) (hN2 : q2 < N) (hp2 : (pairsOf A B)[q2]? = some p2) (hi2 : (pairsOf A B).idxOf p2 = q2)
    (hQ : ∀ f v w, (∃ ev', Bd w bb lo (pairsOf A B) nv ns ev' (es ++ [(p1, p2)]) ∧ (ev'.ownBlock = ev.ownBlock ∨ ∃ g, ev'.ownBlock = some g ∧ w0.heap.size ≤ g) ∧ Keep (fun b => b = bb ∨ ev.ownBlock = some b) w0 w) → Q .normal ((putAll ops_strAB f 35 a0).put (some 211) v) w) :
    (Code.region id ops_strAB true).wp Tryz.prog Q a0 w0 := by
  generalize hops : ops_strAB = ops at *
  conv at hops =>
    lhs
    whnf
  subst hops
  have hpn1 : pnI q1 p1 = pn (pairsOf A B) p1 := by unfold pn; rw [hi1]
  have hpn2 : pnI q2 p2 = pn (pairsOf A B) p2 := by unfold pn; rw [hi2]
  refine wp_region_K (by kernel_rfl) [.eq (.iface 60 (.pointer (some ⟨bb, 0, none⟩))), .eq (.iface 60 (.pointer (some ⟨bb, 0, none⟩))), .eq (.slice (some ⟨gp, 0, none⟩) N N), .eq (.int .i64 (i : Int)), .eq (.int .i64 (j : Int)), .two i j, .eq (twoV d), .eq (.int .i64 (q1 : Int)), .eq (.pointer (some ⟨gp, q1 * 3, none⟩)), .eq (pnA q1 p1), .eq (pn (pairsOf A B) p1), .eq (.slice (some ⟨gp, 0, none⟩) N N), .eq (.map (some m1)), .eq (.iface 284 (.pointer (some ⟨it_h, 0, none⟩))), .eq (nodeV v1), .eq (.int .i64 v1), .eq (.int .i64 (h : Int)), .eq (.map (some m2)), .eq (.iface 284 (.pointer (some ⟨it_k, 0, none⟩))), .eq (nodeV v2), .eq (.int .i64 v2), .eq (.int .i64 (k : Int)), .two h k, .eq (twoV d), .eq (.int .i64 (q2 : Int)), .eq (.pointer (some ⟨gp, q2 * 3, none⟩)), .eq (pnA q2 p2), .eq (pn (pairsOf A B) p2), .eq (.func (.method "NewEdge") #[.iface 60 (.pointer (some ⟨bb, 0, none⟩))] #[]), .eq (.func (.method "NewEdge") #[.iface 60 (.pointer (some ⟨bb, 0, none⟩))] #[]), .eq (.iface 60 (.pointer (some ⟨bb, 0, none⟩))), .eq (edgeV (pairsOf A B) (p1, p2)), .eq (.func (.method "SetEdge") #[.iface 60 (.pointer (some ⟨bb, 0, none⟩))] #[]), .eq (.func (.method "SetEdge") #[.iface 60 (.pointer (some ⟨bb, 0, none⟩))] #[]), .eq (.iface 60 (.pointer (some ⟨bb, 0, none⟩)))] 35 (by kernel_rfl) (by rw [hsz]; kernel_rfl) (by kernel_rfl) ?_ ?_
  · intro j hj a w hk hs hv
    replace hs : ∀ t, isDst _ t = false → a.eval (.tmp t) = a0.eval (.tmp t) := hs
    obtain ⟨r, rfl⟩ : ∃ r, r = j := ⟨_, rfl⟩
    match r, hj, hv with
    | 0, _, hv =>
      have e0 := (hs 0 (by kernel_rfl)).trans h0
      exact OwesK.move rfl rfl (.inl rfl) e0 rfl
    | 1, _, hv =>
      have e0 := (hs 0 (by kernel_rfl)).trans h0
      exact OwesK.move rfl rfl (.inl rfl) e0 rfl
    | 2, _, hv =>
      have e8 := (hs 8 (by kernel_rfl)).trans h8
      exact OwesK.move rfl rfl (.inl rfl) e8 rfl
    | 3, _, hv =>
      have e14 := (hs 14 (by kernel_rfl)).trans h14
      exact OwesK.move rfl rfl (.inl rfl) e14 rfl
    | 4, _, hv =>
      have e21 := (hs 21 (by kernel_rfl)).trans h21
      exact OwesK.move rfl rfl (.inl rfl) e21 rfl
    | 5, _, hv =>
      have e179 : a.eval (.tmp 179) = .int .i64 (i : Int) := hv 3 (oD (by kernel_rfl))
      have e180 : a.eval (.tmp 180) = .int .i64 (j : Int) := hv 4 (oD (by kernel_rfl))
      exact OwesK.two (t := 0) rfl rfl rfl e179 e180 hk.size (bs2 _ _ w) rfl rfl
    | 6, _, hv =>
      have e13 := (hs 13 (by kernel_rfl)).trans h13
      exact OwesK.move rfl rfl (.inl rfl) e13 rfl
    | 7, _, hv =>
      obtain ⟨b181, e181, m181, _⟩ : ∃ b, a.eval (.tmp 181) = twoV b ∧ Two w b (i : Int) (j : Int) ∧ w0.heap.size ≤ b := hv 5 (oD (by kernel_rfl))
      have e182 : a.eval (.tmp 182) = twoV d := hv 6 (oD (by kernel_rfl))
      refine OwesK.fn rfl rfl rfl rfl (args := #[twoV b181, twoV d]) (by simp only [List.map_toArray, List.map_cons, List.map_nil, e181, e182]) (cfIdx _ _ w) ((idxFor_spec m181 (hd.keepF hk) hx1 hy1 hA hB).mono ?_)
      rintro e w' ⟨rfl, rfl⟩
      refine ⟨_, rfl, ?_, Keep.refl _ _⟩
      show Value.int .i64 ((i * nB + j : Nat) : Int) = .int .i64 (q1 : Int)
      rw [hq1]
    | 8, _, hv =>
      have e178 : a.eval (.tmp 178) = .slice (some ⟨gp, 0, none⟩) N N := hv 2 (oD (by kernel_rfl))
      have e183 : a.eval (.tmp 183) = .int .i64 (q1 : Int) := hv 7 (oD (by kernel_rfl))
      exact OwesK.iaddr rfl rfl rfl e178 e183 (iaP gp _ q1 hN1 w) rfl
    | 9, _, hv =>
      have e184 : a.eval (.tmp 184) = .pointer (some ⟨gp, q1 * 3, none⟩) := hv 8 (oD (by kernel_rfl))
      exact OwesK.load rfl rfl rfl e184 (ldP (hP.keep hk (fun h => h)) hN1 hp1) rfl
    | 10, _, hv =>
      have e185 : a.eval (.tmp 185) = pnA q1 p1 := hv 9 (oD (by kernel_rfl))
      exact OwesK.mki (v := pn (pairsOf A B) p1) rfl rfl rfl e185 (by rw [← hpn1]; exact mkiP q1 p1 w) rfl
    | 11, _, hv =>
      have e8 := (hs 8 (by kernel_rfl)).trans h8
      exact OwesK.move rfl rfl (.inl rfl) e8 rfl
    | 12, _, hv =>
      have e9 := (hs 9 (by kernel_rfl)).trans h9
      exact OwesK.move rfl rfl (.inl rfl) e9 rfl
    | 13, _, hv =>
      have e20 := (hs 20 (by kernel_rfl)).trans h20
      exact OwesK.move rfl rfl (.inl rfl) e20 rfl
    | 14, _, hv =>
      have e189 : a.eval (.tmp 189) = .iface 284 (.pointer (some ⟨it_h, 0, none⟩)) := hv 13 (oD (by kernel_rfl))
      refine OwesK.meth rfl rfl rfl rfl e189 (args := #[]) (by simp) (cmNode it_h w) ((Node_at (hith.keep hk (fun h => h) (fun h => h)) hlh).mono ?_)
      rintro e w' ⟨rfl, q, rfl⟩
      exact ⟨_, rfl, rfl, (Keep.refl _ w).drewN q⟩
    | 15, _, hv =>
      have e190 : a.eval (.tmp 190) = nodeV v1 := hv 14 (oD (by kernel_rfl))
      refine OwesK.meth rfl rfl rfl rfl e190 (args := #[]) (by simp) (cmID v1 w) ((ID_spec _ _).mono ?_)
      rintro e w' ⟨rfl, rfl⟩
      exact ⟨_, rfl, rfl, Keep.refl _ _⟩
    | 16, _, hv =>
      have e188 : a.eval (.tmp 188) = .map (some m1) := hv 12 (oD (by kernel_rfl))
      have e191 : a.eval (.tmp 191) = .int .i64 v1 := hv 15 (oD (by kernel_rfl))
      exact OwesK.look rfl rfl rfl e188 e191 (lookI (hm1.keepF hk) hnm1 huh) rfl
    | 17, _, hv =>
      have e10 := (hs 10 (by kernel_rfl)).trans h10
      exact OwesK.move rfl rfl (.inl rfl) e10 rfl
    | 18, _, hv =>
      have e23 := (hs 23 (by kernel_rfl)).trans h23
      exact OwesK.move rfl rfl (.inl rfl) e23 rfl
    | 19, _, hv =>
      have e194 : a.eval (.tmp 194) = .iface 284 (.pointer (some ⟨it_k, 0, none⟩)) := hv 18 (oD (by kernel_rfl))
      refine OwesK.meth rfl rfl rfl rfl e194 (args := #[]) (by simp) (cmNode it_k w) ((Node_at (hitk.keep hk (fun h => h) (fun h => h)) hlk).mono ?_)
      rintro e w' ⟨rfl, q, rfl⟩
      exact ⟨_, rfl, rfl, (Keep.refl _ w).drewN q⟩
    | 20, _, hv =>
      have e195 : a.eval (.tmp 195) = nodeV v2 := hv 19 (oD (by kernel_rfl))
      refine OwesK.meth rfl rfl rfl rfl e195 (args := #[]) (by simp) (cmID v2 w) ((ID_spec _ _).mono ?_)
      rintro e w' ⟨rfl, rfl⟩
      exact ⟨_, rfl, rfl, Keep.refl _ _⟩
    | 21, _, hv =>
      have e193 : a.eval (.tmp 193) = .map (some m2) := hv 17 (oD (by kernel_rfl))
      have e196 : a.eval (.tmp 196) = .int .i64 v2 := hv 20 (oD (by kernel_rfl))
      exact OwesK.look rfl rfl rfl e193 e196 (lookI (hm2.keepF hk) hnm2 huk) rfl
    | 22, _, hv =>
      have e192 : a.eval (.tmp 192) = .int .i64 (h : Int) := hv 16 (oD (by kernel_rfl))
      have e197 : a.eval (.tmp 197) = .int .i64 (k : Int) := hv 21 (oD (by kernel_rfl))
      exact OwesK.two (t := 0) rfl rfl rfl e192 e197 hk.size (bs2 _ _ w) rfl rfl
    | 23, _, hv =>
      have e13 := (hs 13 (by kernel_rfl)).trans h13
      exact OwesK.move rfl rfl (.inl rfl) e13 rfl
    | 24, _, hv =>
      obtain ⟨b198, e198, m198, _⟩ : ∃ b, a.eval (.tmp 198) = twoV b ∧ Two w b (h : Int) (k : Int) ∧ w0.heap.size ≤ b := hv 22 (oD (by kernel_rfl))
      have e199 : a.eval (.tmp 199) = twoV d := hv 23 (oD (by kernel_rfl))
      refine OwesK.fn rfl rfl rfl rfl (args := #[twoV b198, twoV d]) (by simp only [List.map_toArray, List.map_cons, List.map_nil, e198, e199]) (cfIdx _ _ w) ((idxFor_spec m198 (hd.keepF hk) hx2 hy2 hA hB).mono ?_)
      rintro e w' ⟨rfl, rfl⟩
      refine ⟨_, rfl, ?_, Keep.refl _ _⟩
      show Value.int .i64 ((h * nB + k : Nat) : Int) = .int .i64 (q2 : Int)
      rw [hq2]
    | 25, _, hv =>
      have e187 : a.eval (.tmp 187) = .slice (some ⟨gp, 0, none⟩) N N := hv 11 (oD (by kernel_rfl))
      have e200 : a.eval (.tmp 200) = .int .i64 (q2 : Int) := hv 24 (oD (by kernel_rfl))
      exact OwesK.iaddr rfl rfl rfl e187 e200 (iaP gp _ q2 hN2 w) rfl
    | 26, _, hv =>
      have e201 : a.eval (.tmp 201) = .pointer (some ⟨gp, q2 * 3, none⟩) := hv 25 (oD (by kernel_rfl))
      exact OwesK.load rfl rfl rfl e201 (ldP (hP.keep hk (fun h => h)) hN2 hp2) rfl
    | 27, _, hv =>
      have e202 : a.eval (.tmp 202) = pnA q2 p2 := hv 26 (oD (by kernel_rfl))
      exact OwesK.mki (v := pn (pairsOf A B) p2) rfl rfl rfl e202 (by rw [← hpn2]; exact mkiP q2 p2 w) rfl
    | 28, _, hv =>
      have e177 : a.eval (.tmp 177) = .iface 60 (.pointer (some ⟨bb, 0, none⟩)) := hv 1 (oD (by kernel_rfl))
      exact OwesK.mkf rfl rfl rfl e177 rfl
    | 29, _, hv =>
      have e204 : a.eval (.tmp 204) = .func (.method "NewEdge") #[.iface 60 (.pointer (some ⟨bb, 0, none⟩))] #[] := hv 28 (oD (by kernel_rfl))
      exact OwesK.nilc rfl rfl rfl e204 (nilB bb w) rfl
    | 30, _, hv =>
      have e177 : a.eval (.tmp 177) = .iface 60 (.pointer (some ⟨bb, 0, none⟩)) := hv 1 (oD (by kernel_rfl))
      exact OwesK.move rfl rfl (.inl rfl) e177 rfl
    | 31, _, hv =>
      have e206 : a.eval (.tmp 206) = .iface 60 (.pointer (some ⟨bb, 0, none⟩)) := hv 30 (oD (by kernel_rfl))
      have e186 : a.eval (.tmp 186) = pn (pairsOf A B) p1 := hv 10 (oD (by kernel_rfl))
      have e203 : a.eval (.tmp 203) = pn (pairsOf A B) p2 := hv 27 (oD (by kernel_rfl))
      refine OwesK.meth rfl rfl rfl rfl e206 (args := #[pn (pairsOf A B) p1, pn (pairsOf A B) p2]) (by simp only [List.map_toArray, List.map_cons, List.map_nil, e186, e203]) (cmNew bb _ _ w) ((newEdge_spec _ _ _ _ _).mono ?_)
      rintro e w' ⟨rfl, rfl⟩
      exact ⟨_, rfl, rfl, Keep.refl _ _⟩
    | 32, _, hv =>
      have e176 : a.eval (.tmp 176) = .iface 60 (.pointer (some ⟨bb, 0, none⟩)) := hv 0 (oD (by kernel_rfl))
      exact OwesK.mkf rfl rfl rfl e176 rfl
    | 33, _, hv =>
      have e208 : a.eval (.tmp 208) = .func (.method "SetEdge") #[.iface 60 (.pointer (some ⟨bb, 0, none⟩))] #[] := hv 32 (oD (by kernel_rfl))
      exact OwesK.nilc rfl rfl rfl e208 (nilS bb w) rfl
    | 34, _, hv =>
      have e176 : a.eval (.tmp 176) = .iface 60 (.pointer (some ⟨bb, 0, none⟩)) := hv 0 (oD (by kernel_rfl))
      exact OwesK.move rfl rfl (.inl rfl) e176 rfl
    | r + 35, hj, _ => exact absurd hj (by omega)
  · intro f w hk hv
    refine wpOp_meth (r := .iface 60 (.pointer (some ⟨bb, 0, none⟩))) (args := #[edgeV (pairsOf A B) (p1, p2)]) rfl rfl rfl rfl ?hr ?ha (cmSet bb _ w) ((setEdge_spec (hbd.keepF hk) (p1, p2) (Nat.le_trans hlo hk.size) hes).mono ?hc)
    case hr => exact (putAll_ev (m := 214) (by kernel_rfl) f a0 (by omega) (j := 34) (by decide) (by kernel_rfl)).trans (hv 34 (by decide))
    case ha =>
      simp only [List.map_toArray, List.map_cons, List.map_nil]
      rw [(putAll_ev (m := 214) (by kernel_rfl) f a0 (by omega) (j := 31) (by decide) (by kernel_rfl)).trans (hv 31 (by decide))]
    rintro e w' ⟨rfl, ev', r1, r2, r3⟩
    refine ⟨.tuple #[], rfl, ?_⟩
    refine hQ f (.tuple #[]) w' ⟨ev', r1, ?_, (hk.mono (fun _ _ h => h.elim)).trans r3 (fun _ _ h => h)⟩
    rcases r2 with r2 | ⟨g, r2, r4⟩
    · exact .inl r2
    · exact .inr ⟨g, r2, Nat.le_trans hk.size r4⟩
end Go.Proofs.YtdaccgelmcmfjaaGreatDoor
