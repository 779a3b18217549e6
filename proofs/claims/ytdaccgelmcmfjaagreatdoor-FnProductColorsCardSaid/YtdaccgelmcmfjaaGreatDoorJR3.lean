/- impl.colors, impl.DsaturExact. -/
import Derived.Test.YtdaccgelmcmfjaaGreatDoorJP2
import Derived.Test.YtdaccgelmcmfjaaGreatDoorQ19
import Derived.Test.YtdaccgelmcmfjaaGreatDoorJQ20
import Derived.Test.YtdaccgelmcmfjaaGreatDoorMC
import Derived.Test.YtdaccgelmcmfjaaGreatDoorJP1
import Derived.Test.YtdaccgelmcmfjaaGreatDoorJE0
import Derived.Test.YtdaccgelmcmfjaaGreatDoorJP4
import Derived.Deep.CutRange
import Derived.Deep.RegionLaw
set_option linter.all false
section
namespace Go.Proofs.YtdaccgelmcmfjaaGreatDoor
open Go.RowKit Go.V Go.Sort Go.Lib
theorem infoColor : (Tryz.prog.info? 107).map (fun i => (i.zero, i.size, i.bytes)) = some (some (.agg #[.int .i64 0, .int .i64 0]), 2, 16) := by kernel_rfl
theorem sortRow_spec {w : World} {B n : Nat} {v : Value} {l : List (Int × Int)} (h : w.ownsRow B 107 2 v n (l.flatMap pairA)) (hl : l.length = n) (hn : n ≤ 1000000) :
    Calls Tryz.prog 59 #[v, .func (.func 60) #[] #[]] w fun e w' => e = .returned (.tuple #[]) ∧ Keep (fun b => v.ownBlock = some b) w w' := by
  rcases h.2 with ⟨rfl, rfl⟩ | ⟨g, cap, cur, rfl, hb, hh, h1, h2, h3, h4⟩
  · refine (Tryz.slices_SortFunc_none_f59 (α := Nat) none 0 _ w).mono ?_
    rintro e w' ⟨rfl, rfl⟩
    exact ⟨rfl, Keep.refl _ _⟩
  · have hc : Cells w g 0 (l.flatMap pairA) := fun j u hu => by
      rw [Nat.zero_add, cell_of hh]
      rw [← h4, List.getElem?_take] at hu
      split at hu
      · simpa using hu
      · cases hu
    refine (sortColors_spec hc (fun i => free_of hh i) (lt_of_get hh) hl hn).mono ?_
    rintro e w' ⟨rfl, hk⟩
    exact ⟨rfl, hk.mono (fun b _ h => by subst h; rfl)⟩
set_option maxHeartbeats 8000000 in
set_option maxRecDepth 20000 in
theorem colors_spec {w : World} {m : Nat} {D : PC} (h : ColAt w m D) (hlen : D.length ≤ 1000) :
    Calls Tryz.prog 32 #[.map (some m)] w fun e w' => ∃ v, e = .returned v ∧ Keep (fun _ => False) w w' := by
  have hnd := h.nodup
  have HND := Lib.hid hnd
  have H := Lib.hid h
  have hlt := h.lt
  have hown0 : ∀ (W : World) (B : Nat), W.ownsRow B 107 2 (.slice none 0 0) 0 [] := fun W B => World.ownsRow_nil W B _ _
  have HO := Lib.hid hown0
  clear h hnd hown0
  go_enter Tryz.func32, Tryz.ntmps32
  go_wp2_with (first
    | (at_range; refine wpList_range_kv rfl _ _ rfl 2 3 Tryz.underlying83 m _ rfl H.out ?_; intro w1 hr hk hs; have HR := Lib.hid hr; have HK := Lib.hid hk; have HS := Lib.hid hs; clear hr hk hs; go_frame))
  go_loopg [3] (D.length + 1) (fun gk a3 wr => ∃ (R : PC) (xs : List (Int × Int)), R.length + 1 = gk ∧ Rng wr w.heap.size m (ckv D) (ckv R) ∧ R.Sublist D ∧ xs.length + R.length ≤ D.length ∧ wr.ownsRow w1.heap.size 107 2 a3 xs.length (xs.flatMap pairA) ∧ Keep (fun b => b = w.heap.size) w1 wr)
  case atStart => exact ⟨D, [], rfl, HR.out, List.Sublist.refl _, by simp, HO.out _ _, Keep.refl _ _⟩
  case round =>
    obtain ⟨R, xs, hgk, hr, hsub, hle, hrow, hk⟩ := hrel
    clear HR
    have HR := Lib.hid hr
    have HROW := Lib.hid hrow
    have HKW := Lib.hid hk
    have HGK := Lib.hid hgk
    have HSUB := Lib.hid hsub
    have hw1 := HS.out
    clear hr hrow hk hgk hsub
    have hcs : ∀ g, (u3 : Value).ownBlock = some g → w1.heap.size ≤ g := fun g hg => (HROW.out.lt g hg).1
    go_wp2_with (first
      | (at_next; refine wpList_next_ent rfl _ rfl w.heap.size m _ _ rfl HR.out ?_ ?_; rotate_left; intro k v w2 hmem hr2 hk2 hs2 hent; obtain ⟨c, hc, rfl⟩ := mem_ckv hmem; rw [kdel_ckv] at hr2; have HR2 := Lib.hid hr2; have hk3 := HKW.out.trans hk2 (fun b hb e => e); have HK3 := Lib.hid hk3; have hrow2 := ownsRow_keep' HROW.out hk2 (fun b hb e => by have := hcs b hb; omega); have HROW2 := Lib.hid hrow2; have HC := Lib.hid hc; have HS2 := Lib.hid hs2; clear hmem hr2 hk2 hk3 hrow2 hc hs2; rotate_left; intro hnil; have HNIL := Lib.hid hnil; clear hnil)
      | (at_builtin; refine wpList_push2 rfl rfl HK3.out (by repeat first | exact Keep.refl _ _ | assumption | apply Keep.alloc | apply Keep.drewN | apply Keep.drew | (refine Keep.setCell ?_ _ (fun h => absurd h (Nat.lt_irrefl _)))) infoColor Tryz.underlying42 rfl (by decide) _ _ _ rfl HROW2.out _ 1 1 (pairA (k, (c : Int))) rfl rfl (World.news_of_block (heap_new w2 _)) (by simp [Value.oneCell']) (by decide) (by unfold maxLen; omega) (by omega) ?_; intro g2 cap2 w4 hr4 hk4 hg4 hl4 hkk4; have HR4 := Lib.hid hr4; have HK4 := Lib.hid hk4; have HKK4 := Lib.hid hkk4; clear hr4 hk4 hkk4))
    · have hR : R = [] := by have := HNIL.out; simpa [ckv] using this
      subst hR
      go_wp2_with (first
        | (((with_reducible refine (sortRow_spec HROW.out rfl (by omega)).mono ?_); rintro e w3 ⟨rfl, hk3⟩); have HK3 := Lib.hid hk3; clear hk3))
      go_ret
      exact ⟨_, rfl, (HK.out.trans HKW.out (fun b hb e => by omega)).trans HK3.out (fun b hb e => by have := hcs b e; omega)⟩
    · go_roundg ((cdel R k).length + 1)
      case measure => have := HGK.out; have := cdel_length HC.out; omega
      case rel =>
        have hcd := cdel_length HC.out
        refine ⟨cdel R k, xs ++ [(k, (c : Int))], rfl, HR2.out.keep (((Keep.refl (fun b => (u3 : Value).ownBlock = some b) w2).alloc _).trans HKK4.out (fun b _ e => e)) (fun e => ?_) (fun e => ?_), (List.filter_sublist).trans HSUB.out, by simp; omega, ?_, HK4.out⟩
        · have := hcs _ e; omega
        · have := hcs _ e; omega
        · rw [List.length_append, List.flatMap_append]
          simpa using HR4.out
set_option maxHeartbeats 8000000 in
set_option maxRecDepth 20000 in
theorem implDsatur_spec {B : Nat} {w : World} {gv : Value} {g : IG} (hg : GraphAt B w gv g) (hB : B ≤ w.heap.size) (h : GoodU g) (h0 : 0 < g.nodes.length) (h16 : g.nodes.length ≤ 16) :
    Calls Tryz.prog 15 #[gv] w fun e w' => ∃ (k : Nat) (cv : Value) (G : PG), e = .returned (.tuple #[.int .i64 (k : Int), cv, .bool false]) ∧ Reads g G ∧ Chi G.ids G.adj k ∧ Keep (fun _ => False) w w' := by
  have hb := fun W (hk : Keep (fun _ => False) w W) => bothWays_good (hg.keepF hk) (Nat.le_trans hB hk.size) h
  obtain ⟨na, nn, nc, ea, en, ec, rfl⟩ := graph_form hg
  have HBW := Lib.hid hb
  have HREF := Lib.hid (Keep.refl (fun _ => False) w)
  have hug := fun G (hr : Reads g G) => h.ug hr
  clear hb hg
  have hdx : ∀ B W pb G, Plain B W pb G → B ≤ W.heap.size → Reads g G → Calls Tryz.prog 31 #[.nilIface, gV pb] W (ExactPost W G) := fun B W pb G hp hB hr => by
    have hl : G.ids.length = g.nodes.length := by rw [hr.ids, isort_length]
    exact DsaturExact_spec hp hB (h.ug hr hp.ok) (by omega) (by omega)
  have hcol : ∀ (W : World) (G : PG) (cv : Value), G.Ok → Reads g G → ColsBack W G cv → ∀ W', Keep (fun _ => False) W W' → Calls Tryz.prog 32 #[cv] W' fun e w' => ∃ v, e = .returned v ∧ Keep (fun _ => False) W' w' := fun W G cv ho hr hc W' hk => by
    obtain ⟨m, D, rfl, hc, hD⟩ := hc
    have hl : G.ids.length = g.nodes.length := by rw [hr.ids, isort_length]
    refine colors_spec (hc.keepF hk) ?_
    have := nodup_le hc.nodup hD.1
    rw [List.length_map] at this
    omega
  have HDX := Lib.hid hdx
  have HCOL := Lib.hid hcol
  clear hdx hcol hug
  go_enter Tryz.func15, Tryz.ntmps15
  go_wp2_with (first
    | (((with_reducible refine (HBW.out _ (by repeat first | exact Keep.refl _ _ | assumption | apply Keep.alloc | apply Keep.drewN | apply Keep.drew | (refine Keep.setCell ?_ _ (fun h => absurd h (Nat.lt_irrefl _))))).mono ?_); rintro e w1 ⟨pb, G, rfl, q0, q1, q2, q3⟩); have Q0 := Lib.hid q0; have hp2 := fun (o : Obj) => q2.keepF ((Keep.refl (fun _ => False) w1).alloc o); have hsz2 : ∀ o : Obj, w1.heap.size ≤ (w1.alloc o).heap.size := fun o => (by simp); have HSZ := Lib.hid hsz2; have HP2 := Lib.hid hp2; have HOK := Lib.hid q2.ok; have Q3 := Lib.hid q3; clear q0 q2 q3 hp2 hsz2)
    | (((with_reducible refine (HDX.out _ _ pb G (HP2.out _) (HSZ.out _) Q3.out).mono ?_); rintro e w3 ⟨kk, cv, rfl, q4, q5, q6⟩); have Q4 := Lib.hid q4; have Q5 := Lib.hid (HCOL.out _ _ _ HOK.out Q3.out q5); have Q6 := Lib.hid q6; have hr3 := Keep.refl (fun _ => False) w3; have HR3 := Lib.hid hr3; clear q4 q5 q6 hr3))
  go_region_with (((with_reducible refine (Q5.out _ (by repeat first | exact Keep.refl _ _ | assumption | apply Keep.alloc | apply Keep.drewN | apply Keep.drew | (refine Keep.setCell ?_ _ (fun h => absurd h (Nat.lt_irrefl _))))).mono ?_); rintro e w5 ⟨v5, rfl, k5⟩); have K5 := Lib.hid k5; clear k5)
  all_goals (go_wp2_with fail)
  all_goals go_ret3
  all_goals exact ⟨kk, v5, G, by first | rfl | simp [go_sem], Q3.out, Q4.out, (((((Keep.refl (fun _ => False) w).alloc _).trans Q0.out (fun _ _ h => h)).alloc _).trans Q6.out (fun _ _ h => h)).trans ((HR3.out.drew).trans K5.out (fun _ _ h => h)) (fun _ _ h => h)⟩
end Go.Proofs.YtdaccgelmcmfjaaGreatDoor
end
/- What impl.multiply's walk leans on: rows of pairs and of edges, their sorts; what it leaves. -/
section
namespace Go.V
open Go.RowKit
theorem step_push2 {P : Program} {ops : Array Oper} {o : Oper} {a : Act} {Q : Exit → Act → World → Prop} {w : World} {K : Act → World → Prop} {E : Prop} (hg : o.guard = none) {s x : Operand} {t : TypeId} (ho : o.op = .call { callee := .builtin .append, args := #[s, x], argTypes := #[t, t] })
    {S : Nat → Prop} {w0 w1 : World} (hk0 : Keep S w0 w1) (hk1 : Keep (fun _ => False) w1 w) {e : TypeId} {size bytes : Nat} {z : Value} (hi : (P.info? e).map (fun i => (i.zero, i.size, i.bytes)) = some (some z, size, bytes)) (ht : P.underlying t = some (.slice e))
    (hzs : z.cells.size = size) (hsz : 0 < size)
    (v : Value) (n : Nat) (xs : List Value) (hs : a.eval s = v) (hown : w1.ownsRow w0.heap.size e size v n xs)
    (ad : Addr) (m c : Nat) (news : List Value) (hx : a.eval x = .slice (some ad) m c) (hl : news.length = m * size) (hnews : ∀ j u, news[j]? = some u → w.cell? (ad.add j) = some u) (h1 : ∀ u ∈ news, u.oneCell' = true)
    (hm : 0 < m) (h63 : n + m ≤ maxLen) (hbytes : (n + m) * bytes ≤ 140737488355328)
    (h : ∀ g cap w', w'.ownsRow w0.heap.size e size (.slice (some ⟨g, 0, none⟩) (n + m) cap) (n + m) (xs ++ news) → Keep S w0 w' → w0.heap.size ≤ g → g < w'.heap.size → Keep (fun b => v.ownBlock = some b) w w' →
      K (a.put o.dst (.slice (some ⟨g, 0, none⟩) (n + m) cap)) w') :
    if Region.wanted o (yielded ops a.tmps) = true then Oper.wp P o a w K Q else E := by
  have hw : Region.wanted o (yielded ops a.tmps) = true := by simp [Region.wanted, hg]
  rw [if_pos hw]
  obtain ⟨g, cap, w', h2, h3, h4, h5, h6, h7, _⟩ := exec_push ho hk0 hk1 hi ht hzs hsz v n xs hs hown ad m c news hx hl hnews h1 hm h63 hbytes
  unfold Oper.wp
  rw [h2]
  exact h g cap w' h3 h4 h5 h6 h7
end Go.V
namespace Go.Proofs.YtdaccgelmcmfjaaGreatDoor
open Go.RowKit Go.V Go.Sort Go.Lib
def PRow (w : World) (v : Value) (P : List (Int × Int)) : Prop := ∃ g cap, v = .slice (some ⟨g, 0, none⟩) P.length cap ∧ Cells w g 0 (P.flatMap pairA) ∧ g < w.heap.size
def LVal (w : World) (v : Value) (L : List Lnk) : Prop := (v = .slice none 0 0 ∧ L = []) ∨ ∃ g cap, v = .slice (some ⟨g, 0, none⟩) L.length cap ∧ LRow w g L
theorem LVal.form {w : World} {v : Value} {L : List Lnk} (h : LVal w v L) : ∃ a c, v = .slice a L.length c := by
  rcases h with ⟨rfl, rfl⟩ | ⟨g, cap, rfl, _⟩
  · exact ⟨_, _, rfl⟩
  · exact ⟨_, _, rfl⟩
theorem LVal.keep {S : Nat → Prop} {w w' : World} {v : Value} {L : List Lnk} (h : LVal w v L) (hk : Keep S w w') (hn : ∀ g, v.ownBlock = some g → ¬ S g) : LVal w' v L := by
  rcases h with ⟨rfl, rfl⟩ | ⟨g, cap, rfl, h1⟩
  · exact .inl ⟨rfl, rfl⟩
  · exact .inr ⟨g, cap, rfl, h1.keep hk (hn g rfl)⟩
def PBlk (w : World) (rb : Nat) (nv lv : Value) : Prop := w.heap[rb]? = some (.cells #[.bool false, nv, lv] 31 (0, 0))
theorem PBlk.keep {S : Nat → Prop} {w w' : World} {rb : Nat} {nv lv : Value} (h : PBlk w rb nv lv) (hk : Keep S w w') (hn : ¬ S rb) : PBlk w' rb nv lv := hk.get h hn
theorem PBlk.cells {w : World} {rb : Nat} {nv lv : Value} (h : PBlk w rb nv lv) : w.cell? ⟨rb, 0, none⟩ = some (.bool false) ∧ w.cell? ⟨rb, 1, none⟩ = some nv ∧ w.cell? ⟨rb, 2, none⟩ = some lv ∧ ∀ i, w.frozen? ⟨rb, i, none⟩ = false := three h
theorem PBlk.set1 {w : World} {rb : Nat} {nv lv : Value} (h : PBlk w rb nv lv) (u : Value) : PBlk (w.setCell ⟨rb, 1, none⟩ u) rb u lv := three_set1 h u
theorem PBlk.set2 {w : World} {rb : Nat} {nv lv : Value} (h : PBlk w rb nv lv) (u : Value) : PBlk (w.setCell ⟨rb, 2, none⟩ u) rb nv u := three_set2 h u
theorem PBlk.set0 {w : World} {rb : Nat} {nv lv : Value} (h : PBlk w rb nv lv) : PBlk (w.setCell ⟨rb, 0, none⟩ (.bool false)) rb nv lv := by
  unfold PBlk; rw [heapV_setCell h]; rfl
theorem infoPair : (Tryz.prog.info? 47).map (fun i => (i.zero, i.size, i.bytes)) = some (some (.agg #[.int .i64 0, .int .i64 0]), 2, 16) := by kernel_rfl
theorem infoLink : (Tryz.prog.info? 49).map (fun i => (i.zero, i.size, i.bytes)) = some (some (.agg #[.int .i64 0, .int .i64 0, .int .i64 0, .int .i64 0]), 4, 32) := by kernel_rfl
theorem Bd.nodesAt {w : World} {bb lo : Nat} {P ns : List (Int × Int)} {nv ev : Value} {es : List Lnk} (h : Bd w bb lo P nv ns ev es) (h0 : 0 < ns.length) : ∃ g cap, nv = .slice (some ⟨g, 0, none⟩) ns.length cap ∧ lo ≤ g ∧ g < w.heap.size ∧ ∀ k p, ns[k]? = some p → w.cell? ⟨g, k, none⟩ = some (pnI (P.idxOf p) p) := by
  obtain ⟨g, cap, e, hb, hl, _⟩ := owns_form h.nodes h0
  refine ⟨g, cap, e, hb, hl, fun k p hp => ?_⟩
  have hc := h.nodes.cells (g := g) (by rw [e]; rfl) k (pn P p) (by rw [List.getElem?_map, hp]; rfl)
  rw [Addr.add_lit, Nat.zero_add] at hc
  exact hc
theorem Bd.edgesAt {w : World} {bb lo : Nat} {P ns : List (Int × Int)} {nv ev : Value} {es : List Lnk} (h : Bd w bb lo P nv ns ev es) : (ev = .slice none 0 0 ∧ es = []) ∨ ∃ g cap, ev = .slice (some ⟨g, 0, none⟩) es.length cap ∧ lo ≤ g ∧ g < w.heap.size ∧ ∀ k l, es[k]? = some l → w.cell? ⟨g, k, none⟩ = some (edgeV P l) := by
  rcases Nat.eq_zero_or_pos es.length with h0 | h0
  · have he : es = [] := List.length_eq_zero_iff.1 h0
    subst he
    rcases h.edges.2 with ⟨e, _⟩ | ⟨g, cap, cur, e, hb, hh, _⟩
    · exact .inl ⟨e, rfl⟩
    · exact .inr ⟨g, cap, e, hb, lt_of_get hh, fun k l hl => by simp at hl⟩
  · obtain ⟨g, cap, e, hb, hl, _⟩ := owns_form h.edges h0
    refine .inr ⟨g, cap, e, hb, hl, fun k l hp => ?_⟩
    have hc := h.edges.cells (g := g) (by rw [e]; rfl) k (edgeV P l) (by rw [List.getElem?_map, hp]; rfl)
    rw [Addr.add_lit, Nat.zero_add] at hc
    exact hc
set_option maxRecDepth 20000 in
theorem edgeFrom_spec (x y : Value) (w : World) : Calls Tryz.prog 291 #[.agg #[x, y]] w fun e w' => e = .returned x ∧ Keep (fun _ => False) w w' := by
  go_enter Tryz.func291, Tryz.ntmps291
  go_wp2_with fail
  go_ret
  exact ⟨rfl, (Keep.refl _ w).alloc _⟩
set_option maxRecDepth 20000 in
theorem edgeTo_spec (x y : Value) (w : World) : Calls Tryz.prog 293 #[.agg #[x, y]] w fun e w' => e = .returned y ∧ Keep (fun _ => False) w w' := by
  go_enter Tryz.func293, Tryz.ntmps293
  go_wp2_with fail
  go_ret
  exact ⟨rfl, (Keep.refl _ w).alloc _⟩
theorem cells4 {W : World} {b : Nat} {u0 u1 u2 u3 : Value} {t : TypeId} (h : W.heap[b]? = some (.cells #[u0, u1, u2, u3] t (0, 0))) : (W.cell? ⟨b, 0, none⟩ = some u0 ∧ W.cell? ⟨b, 1, none⟩ = some u1 ∧ W.cell? ⟨b, 2, none⟩ = some u2 ∧ W.cell? ⟨b, 3, none⟩ = some u3) ∧ W.frozen? ⟨b, 0, none⟩ = false ∧ W.frozen? ⟨b, 1, none⟩ = false ∧ W.frozen? ⟨b, 2, none⟩ = false ∧ W.frozen? ⟨b, 3, none⟩ = false := by
  refine ⟨⟨?_, ?_, ?_, ?_⟩, free_of h 0, free_of h 1, free_of h 2, free_of h 3⟩ <;> (rw [cell_of h]; rfl)
theorem owns_row {B sz n : Nat} {w : World} {e : TypeId} {v : Value} {xs : List Value} (h : w.ownsRow B e sz v n xs) : (v = .slice none 0 0 ∧ n = 0) ∨ ∃ g cap, v = .slice (some ⟨g, 0, none⟩) n cap ∧ B ≤ g ∧ g < w.heap.size ∧ Cells w g 0 xs ∧ (∀ i, w.frozen? ⟨g, i, none⟩ = false) ∧ n ≤ cap ∧ cap ≤ maxLen := by
  rcases h.2 with ⟨h1, h2⟩ | ⟨g, cap, cur, hv, hb, hh, h1, h2, h3, h4⟩
  · refine .inl ⟨h1, ?_⟩
    first
      | exact h2
      | (have := h.1; rw [h2] at this; simpa using this)
  · refine .inr ⟨g, cap, hv, hb, lt_of_get hh, fun j u hu => ?_, fun i => free_of hh i, h1, h2⟩
    rw [Nat.zero_add, cell_of hh]
    rw [← h4, List.getElem?_take] at hu
    split at hu
    · simpa using hu
    · cases hu
theorem LRow.of_holds {w : World} {g : Nat} {l : List Lnk} (hg : g < w.heap.size) (hH : HoldsK linkA 4 w g 0 l.toArray) : LRow w g l := ⟨hg, fun j u hu => by
  have hj : j < l.length * 4 := by rw [← flat_length linkA 4 linkA_len]; exact (List.getElem?_eq_some_iff.1 hu).1
  have h1 := hH j (by simpa using hj)
  rw [Nat.zero_add] at h1
  rw [flatK_eq linkA 4 linkA_len (by decide) l j hj] at hu
  cases hu
  exact h1⟩
theorem sortLinks2_spec {w : World} {g cap n : Nat} {l : List Lnk} (hc : Cells w g 0 (l.flatMap linkA)) (hf : ∀ i, w.frozen? ⟨g, i, none⟩ = false) (hg : g < w.heap.size) (hn : l.length = n) (hl : n ≤ 1000000) :
    Calls Tryz.prog 24 #[.slice (some ⟨g, 0, none⟩) n cap, .func (.func 25) #[] #[]] w fun e w' => ∃ l' : List Lnk, e = .returned (.tuple #[]) ∧ LRow w' g l' ∧ l'.length = n ∧ (∀ x, x ∈ l' ↔ x ∈ l) ∧ l'.Pairwise (fun x y => llt x y ∨ x = y) ∧ Keep (fun b => b = g) w w' := by
  have eg : ∀ args w, (callFunc 25 args).run Tryz.prog w = .ok (.enter 25 args) w := enters_of Tryz.func25 (by kernel_rfl) rfl
  have hcmp : CmpLays Tryz.prog 25 #[] linkA 4 lcmp g 0 l.toArray.size w := fun m os dk _ x y =>
    (linkC_spec x y _).mono (by rintro e w' ⟨rfl, os', rfl⟩; exact ⟨rfl, 0, os', rfl⟩)
  have hH := holdsK_of linkA 4 (fun _ => rfl) (by decide) hc hf
  have hs1 := Tryz.slices_SortFunc_total_f24 4 (fun _ => by kernel_rfl) (fun _ => by kernel_rfl) linkA (fun _ => rfl) (fun x v hv => by simp at hv; rcases hv with rfl | rfl | rfl | rfl <;> rfl) lcmp swoL 25 #[] g 0 cap l.toArray w eg hcmp hH hg (by simp; omega) (eq_of_ltOf lcmp llt (fun _ _ => lcmp_lt) llt_total)
  rw [show l.toArray.size = n by simpa using hn] at hs1
  refine hs1.mono ?_
  rintro e w' ⟨rfl, k, os, rfl⟩
  refine ⟨_, rfl, LRow.of_holds (Nat.lt_of_lt_of_le hg (keep_sortWorldK ..).size) (holdsK_sorted linkA 4 hg hH (by simp)), by rw [List.length_mergeSort]; exact hn, fun x => List.mem_mergeSort, msort_sorted lcmp llt (fun _ _ => lcmp_lt) (fun _ _ _ => llt_trans) llt_irrefl llt_total l, keep_sortWorldK ..⟩
def LPost (w : World) (lv : Value) (l : List Lnk) (e : Ending) (w' : World) : Prop := ∃ l' : List Lnk, e = .returned (.tuple #[]) ∧ ((lv = .slice none 0 0 ∧ l' = []) ∨ ∃ g cap, lv = .slice (some ⟨g, 0, none⟩) l'.length cap ∧ l'.length ≤ cap ∧ cap ≤ maxLen ∧ LRow w' g l') ∧ (∀ x, x ∈ l' ↔ x ∈ l) ∧ l'.Pairwise (fun x y => llt x y ∨ x = y) ∧ l'.length ≤ 100000 ∧ Keep (fun b => lv.ownBlock = some b) w w'
theorem sortLinksV {B n : Nat} {w : World} {lv : Value} {l : List Lnk} (h : w.ownsRow B 49 4 lv n (l.flatMap linkA)) (hn : l.length = n) (hl : n ≤ 100000) :
    Calls Tryz.prog 24 #[lv, .func (.func 25) #[] #[]] w (LPost w lv l) := by
  rcases owns_row h with ⟨rfl, h0⟩ | ⟨g, cap, rfl, _, hg, hc, hf, h1, h2⟩
  · have : l = [] := List.length_eq_zero_iff.1 (by omega)
    subst this
    refine (Tryz.slices_SortFunc_none_f24 (α := Nat) none 0 _ w).mono ?_
    rintro e w' ⟨rfl, rfl⟩
    exact ⟨[], rfl, .inl ⟨rfl, rfl⟩, fun _ => Iff.rfl, List.Pairwise.nil, by simp, Keep.refl _ _⟩
  · refine (sortLinks2_spec hc hf hg hn (by omega)).mono ?_
    rintro e w' ⟨l', rfl, r1, r2, r3, r4, r5⟩
    exact ⟨l', rfl, .inr ⟨g, cap, by rw [r2], by omega, h2, r1⟩, r3, r4, by omega, r5.mono (fun b _ h => by subst h; rfl)⟩
set_option maxRecDepth 20000 in
theorem compactNil (w : World) : Calls Tryz.prog 26 #[.slice none 0 0] w fun e w' => e = .returned (.slice none 0 0) ∧ w = w' := by
  go_enter Tryz.func26, Tryz.ntmps26
  go_wp2_with fail
  go_ret
  exact ⟨rfl, rfl⟩
theorem compactV {w : World} {lv : Value} {l : List Lnk} (h : (lv = .slice none 0 0 ∧ l = []) ∨ ∃ g cap, lv = .slice (some ⟨g, 0, none⟩) l.length cap ∧ l.length ≤ cap ∧ cap ≤ maxLen ∧ LRow w g l) (hl : l.length ≤ 100000) (hs : l.Pairwise fun x y => llt x y ∨ x = y) :
    Calls Tryz.prog 26 #[lv] w fun e w' => ∃ v L, e = .returned v ∧ LVal w' v L ∧ L.Pairwise llt ∧ (∀ x, x ∈ L ↔ x ∈ l) ∧ (v.ownBlock = lv.ownBlock) ∧ Keep (fun b => lv.ownBlock = some b) w w' := by
  rcases h with ⟨rfl, rfl⟩ | ⟨g, cap, rfl, h1, h2, h3⟩
  · exact (compactNil w).mono (by rintro e w' ⟨rfl, rfl⟩; exact ⟨_, [], rfl, .inl ⟨rfl, rfl⟩, List.Pairwise.nil, fun _ => Iff.rfl, rfl, Keep.refl _ _⟩)
  · refine (compactLinks_spec h3 rfl h1 h2 hl hs).mono ?_
    rintro e w' ⟨k, L, rfl, r1, r2, r3, r4, r5⟩
    exact ⟨_, L, rfl, .inr ⟨g, cap, by rw [r1], r2⟩, r3, r4, rfl, r5.mono (fun b _ h => by subst h; rfl)⟩
def MulPost (w : World) (GA GB : PG) (k : Nat) (e : Ending) (w' : World) : Prop :=
  ∃ (nv lv : Value) (L : List Lnk), e = .returned (.tuple #[.agg #[.bool false, nv, lv], .bool false]) ∧ PRow w' nv (pairsOf GA.ids GB.ids) ∧ LVal w' lv L ∧ L.Pairwise llt ∧
    (∀ U V, (U, V) ∈ L ↔ U ∈ pairsOf GA.ids GB.ids ∧ V ∈ pairsOf GA.ids GB.ids ∧ plt U V ∧ RelK k GA.adj GB.adj U V) ∧ (∀ g, nv.ownBlock = some g → w.heap.size ≤ g) ∧ (∀ g, lv.ownBlock = some g → w.heap.size ≤ g) ∧ Keep (fun _ => False) w w'
def Lays (f : FuncId) (k : Nat) : Prop := ∀ (B1 pa pb bb : Nat) (w : World) (GA GB : PG), Plain B1 w pa GA → Plain B1 w pb GB → B1 ≤ bb → UG GA → UG GB → 0 < GA.ids.length → 0 < GB.ids.length → GA.ids.length ≤ 8 → GB.ids.length ≤ 8 → Bd0 w bb →
  Calls Tryz.prog f #[.iface 60 (.pointer (some ⟨bb, 0, none⟩)), gV pa, gV pb] w (ProdPost w bb (pairsOf GA.ids GB.ids) (eK GA.ids GB.ids (nbo GA) (nbo GB) k))
end Go.Proofs.YtdaccgelmcmfjaaGreatDoor
end
