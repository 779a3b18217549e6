/- laws.fewOf, laws.chromatic. -/
import Derived.Test.YtdaccgelmcmfjaaGreatDoorJL1
import Derived.Test.YtdaccgelmcmfjaaGreatDoorJR3
import Derived.Test.YtdaccgelmcmfjaaGreatDoorMU
import Derived.Test.YtdaccgelmcmfjaaGreatDoorP6
import Derived.Test.YtdaccgelmcmfjaaGreatDoorP7
import Derived.Test.YtdaccgelmcmfjaaGreatDoorJPF
set_option linter.all false
section
namespace Go.Proofs.YtdaccgelmcmfjaaGreatDoor
open Go.RowKit Go.V
set_option maxHeartbeats 4000000 in
set_option maxRecDepth 20000 in
theorem fewOf_spec {B : Nat} {w : World} {gv : Value} {g : IG} (h : GraphAt B w gv g) :
    Calls Tryz.prog 5 #[gv, .bool false, .int .i64 4] w (Tells w (g.dir = false ∧ g.nodes.length ≤ 4 ∧ g.edges.length ≤ 32 ∧ g.Good)) := by
  have hf : ∀ W, Keep (fun _ => False) w W → Calls Tryz.prog 11 #[gv, .int .i64 4] W (Tells W (g.nodes.length ≤ 4 ∧ g.edges.length ≤ 32 ∧ g.Good)) := fun W hk => few_spec (h.keepF hk)
  obtain ⟨na, nc, ea, ec, rfl, -, -⟩ := graph_lens h
  have hk0 : Keep (fun _ => False) w (w.alloc (.cells #[.bool g.dir, .slice na g.nodes.length nc, .slice ea g.edges.length ec] 25 (0, 0))) := (Keep.refl _ w).alloc _
  generalize (g.nodes.length ≤ 4 ∧ g.edges.length ≤ 32 ∧ g.Good) = X at *
  generalize g.nodes.length = n at *
  generalize g.edges.length = m at *
  generalize g.dir = d at *
  have HF := Lib.hid hf
  have HK0 := Lib.hid hk0
  clear hf hk0 h
  go_enter Tryz.func5, Tryz.ntmps5
  cases d
  · have hf1 := HF.out _ HK0.out
    unfold Tells at hf1
    have HF1 := Lib.hid hf1
    clear hf1
    go_wp2_with (first | (((with_reducible refine (HF1.out).mono ?_); rintro e w1 ⟨bb, rfl, hb, hk⟩); have HB := Lib.hid hb; have HKK := Lib.hid (HK0.out.trans hk (fun _ _ h => h)); clear hb hk))
    go_ret
    exact ⟨bb, rfl, fun h => ⟨by first | rfl | trivial, HB.out h⟩, HKK.out⟩
  · go_wp2_with fail
    go_ret
    exact ⟨false, rfl, fun h => (by cases h), HK0.out⟩
def ChPost (w : World) (g : IG) (e : Ending) (w' : World) : Prop := ∃ (k : Nat) (G : PG), e = .returned (.tuple #[.int .i64 (k : Int), .bool true]) ∧ Reads g G ∧ Chi G.ids G.adj k ∧ Keep (fun _ => False) w w'
set_option maxHeartbeats 4000000 in
set_option maxRecDepth 20000 in
theorem chromatic_spec {B : Nat} {w : World} {gv : Value} {g : IG} (hg : GraphAt B w gv g) (hB : B ≤ w.heap.size) (h : GoodU g) (h0 : 0 < g.nodes.length) (h16 : g.nodes.length ≤ 16) :
    Calls Tryz.prog 8 #[gv] w (ChPost w g) := by
  have hd := fun W (hk : Keep (fun _ => False) w W) => implDsatur_spec (hg.keepF hk) (Nat.le_trans hB hk.size) h h0 h16
  obtain ⟨na, nn, nc, ea, en, ec, rfl⟩ := graph_form hg
  have HD := Lib.hid hd
  clear hd hg
  go_enter Tryz.func8, Tryz.ntmps8
  go_wp2_with (first | (((with_reducible refine (HD.out _ (by repeat first | exact Keep.refl _ _ | assumption | apply Keep.alloc | apply Keep.drewN | apply Keep.drew | (refine Keep.setCell ?_ _ (fun h => absurd h (Nat.lt_irrefl _))))).mono ?_); rintro e w1 ⟨k, cv, G, rfl, hr, hc, hk⟩); have HR := Lib.hid hr; have HC := Lib.hid hc; have HK := Lib.hid hk; clear hr hc hk))
  (try simp only [Exit.inBlock, Exit.then])
  refine bodyPost_ret (by simp [results, Tryz.results8, go_sem]; try rfl) rfl ?_
  exact ⟨k, G, rfl, HR.out, HC.out, ((Keep.refl (fun _ => False) w).alloc _).trans HK.out (fun _ _ h => h)⟩
theorem chi_le {ids : List Int} {adj : Int → Int → Prop} {k : Nat} (hi : ∀ u, ¬ adj u u) (h : Chi ids adj k) : k ≤ ids.length := by
  refine h.2 _ ⟨fun u => ids.idxOf u, fun u hu => List.idxOf_lt_length_iff.2 hu, fun u hu v hv huv he => ?_⟩
  have he : ids.idxOf u = ids.idxOf v := he
  have h1 := List.getElem_idxOf (List.idxOf_lt_length_iff.2 hu)
  have h2 := List.getElem_idxOf (List.idxOf_lt_length_iff.2 hv)
  have : u = v := by rw [← h1, ← h2]; simp only [he]
  subst this
  exact hi u huv
end Go.Proofs.YtdaccgelmcmfjaaGreatDoor
end
/- impl's products, one by one (written by gen_wrap.py). -/
section
namespace Go.Proofs.YtdaccgelmcmfjaaGreatDoor
open Go.RowKit Go.V Go.Sort Go.Lib
theorem PRow.keep {S : Nat → Prop} {w w' : World} {v : Value} {P : List (Int × Int)} (h : PRow w v P) (hk : Keep S w w') (hn : ∀ g, v.ownBlock = some g → ¬ S g) : PRow w' v P := by
  obtain ⟨g, cap, rfl, h1, h2⟩ := h
  exact ⟨g, cap, rfl, h1.keep hk (hn g rfl), Nat.lt_of_lt_of_le h2 hk.size⟩
def ImpPost (w : World) (ga gb : IG) (k : Nat) (e : Ending) (w' : World) : Prop := ∃ GA GB, UG GA ∧ UG GB ∧ Reads ga GA ∧ Reads gb GB ∧ MulPost w GA GB k e w'
theorem box2 {w : World} (x y z : Obj) : Keep (fun _ => False) w (((w.alloc x).alloc y).alloc z) ∧ (((w.alloc x).alloc y).alloc z).heap[w.heap.size + 1 + 1]? = some z ∧ (((w.alloc x).alloc y).alloc z).heap.size = w.heap.size + 3 :=
  ⟨(((Keep.refl _ w).alloc x).alloc y).alloc z, new_at (by simp) z, by simp⟩
def st3 (w : World) (b : Nat) (nv lv : Value) : World := ((w.setCell ⟨b, 0, none⟩ (.bool false)).setCell ⟨b, 1, none⟩ nv).setCell ⟨b, 2, none⟩ lv
theorem impTail {w w3 w1 : World} {ga gb : IG} {k : Nat} {e : Ending} (hx : w3.heap[w.heap.size + 1 + 1]? = some (.cells #[.bool false, .slice none 0 0, .slice none 0 0] 31 (0, 0))) (hk : Keep (fun _ => False) w w3) (hs : w3.heap.size = w.heap.size + 3) (h : ImpPost w3 ga gb k e w1) :
    ∃ gP n cP aL m cL, e = .returned (.tuple #[.agg #[.bool false, .slice (some ⟨gP, 0, none⟩) n cP, .slice aL m cL], .bool false]) ∧ (w1.cell? ⟨w.heap.size + 1 + 1, 0, none⟩ = some (.bool false) ∧ w1.cell? ⟨w.heap.size + 1 + 1, 1, none⟩ = some (.slice none 0 0) ∧ w1.cell? ⟨w.heap.size + 1 + 1, 2, none⟩ = some (.slice none 0 0) ∧ w1.frozen? ⟨w.heap.size + 1 + 1, 0, none⟩ = false ∧ w1.frozen? ⟨w.heap.size + 1 + 1, 1, none⟩ = false ∧ w1.frozen? ⟨w.heap.size + 1 + 1, 2, none⟩ = false) ∧
      ((st3 w1 (w.heap.size + 1 + 1) (.slice (some ⟨gP, 0, none⟩) n cP) (.slice aL m cL)).cell? ⟨w.heap.size + 1 + 1, 0, none⟩ = some (.bool false) ∧ (st3 w1 (w.heap.size + 1 + 1) (.slice (some ⟨gP, 0, none⟩) n cP) (.slice aL m cL)).cell? ⟨w.heap.size + 1 + 1, 1, none⟩ = some (.slice (some ⟨gP, 0, none⟩) n cP) ∧ (st3 w1 (w.heap.size + 1 + 1) (.slice (some ⟨gP, 0, none⟩) n cP) (.slice aL m cL)).cell? ⟨w.heap.size + 1 + 1, 2, none⟩ = some (.slice aL m cL)) ∧
      ImpPost w ga gb k (.returned (.tuple #[.agg #[.bool false, .slice (some ⟨gP, 0, none⟩) n cP, .slice aL m cL], .bool false])) (st3 w1 (w.heap.size + 1 + 1) (.slice (some ⟨gP, 0, none⟩) n cP) (.slice aL m cL)) := by
  obtain ⟨GA, GB, ua, ub, ra, rb, nv, lv, L, rfl, q1, q2, q3, q4, qn, ql, q5⟩ := h
  have q1a := q1
  obtain ⟨gP, cP, rfl, _⟩ := q1
  obtain ⟨aL, cL, rfl⟩ := q2.form
  have hx5 := q5.get hx (fun h => h)
  obtain ⟨x0, x1, x2, xf⟩ := three hx5
  have hqn := qn gP rfl
  have hql := ql
  rw [hs] at hqn hql
  have hqp : ∀ g, (Value.slice (some ⟨gP, 0, none⟩) (pairsOf GA.ids GB.ids).length cP).ownBlock = some g → w.heap.size + 1 + 1 + 1 ≤ g := fun g hg => by have e : gP = g := Option.some.inj hg; omega
  have hkw : Keep (fun b => b = w.heap.size + 1 + 1) w1 (st3 w1 (w.heap.size + 1 + 1) (.slice (some ⟨gP, 0, none⟩) (pairsOf GA.ids GB.ids).length cP) (.slice aL L.length cL)) :=
    (((Keep.refl (fun b => b = w.heap.size + 1 + 1) w1).setCell (a := ⟨w.heap.size + 1 + 1, 0, none⟩) _ (fun _ => rfl)).setCell (a := ⟨w.heap.size + 1 + 1, 1, none⟩) _ (fun _ => rfl)).setCell (a := ⟨w.heap.size + 1 + 1, 2, none⟩) _ (fun _ => rfl)
  have hpb : PBlk w1 (w.heap.size + 1 + 1) (.slice none 0 0) (.slice none 0 0) := hx5
  obtain ⟨y0, y1, y2, _⟩ := (((hpb.set0).set1 (.slice (some ⟨gP, 0, none⟩) (pairsOf GA.ids GB.ids).length cP)).set2 (.slice aL L.length cL)).cells
  exact ⟨gP, _, cP, aL, _, cL, rfl, ⟨x0, x1, x2, xf 0, xf 1, xf 2⟩, ⟨y0, y1, y2⟩, GA, GB, ua, ub, ra, rb, _, _, L, rfl, PRow.keep q1a hkw (fun g hg e => by have := hqp g hg; omega), q2.keep hkw (fun g hg e => by have := hql g hg; omega), q3, q4, fun g hg => (by have := hqp g hg; omega), fun g hg => (by have := hql g hg; omega), (hk.trans q5 (fun _ _ h => h)).trans hkw (fun b hb h => by omega)⟩
theorem laysStrong : Lays 14 4 := fun B1 pa pb bb w GA GB h1 h2 h3 h4 h5 h6 h7 h8 h9 h10 => prodStrong_spec h1 h2 h3 h4 h5 h6 h7 h8 h9 h10
set_option maxHeartbeats 8000000 in
set_option maxRecDepth 20000 in
theorem impStrong_spec {B : Nat} {w : World} {ga gb : IG} {gav gbv : Value} (hga : GraphAt B w gav ga) (hgb : GraphAt B w gbv gb) (hB : B ≤ w.heap.size) (gda : GoodU ga) (gdb : GoodU gb) (a0 : 0 < ga.nodes.length) (b0 : 0 < gb.nodes.length) (a8 : ga.nodes.length ≤ 8) (b8 : gb.nodes.length ≤ 8) :
    Calls Tryz.prog 7 #[gav, gbv] w (ImpPost w ga gb 4) := by
  have heg : ∀ args w, (callFunc 14 args).run Tryz.prog w = .ok (.enter 14 args) w := enters_of Tryz.func14 (by kernel_rfl) rfl
  have hmu := fun W (hk : Keep (fun _ => False) w W) => multiply_spec heg laysStrong (hga.keepF hk) (hgb.keepF hk) (Nat.le_trans hB hk.size) gda gdb a0 b0 a8 b8
  have hda := gda.dir
  have hdb := gdb.dir
  obtain ⟨na, nn, nc, ea, en, ec, rfl⟩ := graph_form hga
  obtain ⟨na', nn', nc', ea', en', ec', rfl⟩ := graph_form hgb
  rw [hda] at *
  rw [hdb] at *
  obtain ⟨hkx, hx2, hsx⟩ := box2 (w := w) (.cells #[.bool false, .slice na nn nc, .slice ea en ec] 25 (0, 0)) (.cells #[.bool false, .slice na' nn' nc', .slice ea' en' ec'] 25 (0, 0)) (.cells #[.bool false, .slice none 0 0, .slice none 0 0] 31 (0, 0))
  have HMU := Lib.hid hmu
  have HKX := Lib.hid hkx
  have HX2 := Lib.hid hx2
  have HSX := Lib.hid hsx
  clear hmu hga hgb hda hdb heg hkx hx2 hsx
  go_enter Tryz.func7, Tryz.ntmps7
  go_wp2_with (first
    | (((with_reducible refine (HMU.out _ HKX.out).mono ?_); rintro e w1 hp); obtain ⟨gP, n, cP, aL, m, cL, rfl, ⟨x0, x1, x2, f0, f1, f2⟩, hy, hf⟩ := impTail HX2.out HKX.out HSX.out hp; have HY := Lib.hid hy; have HF := Lib.hid hf; clear hp hy hf))
  obtain ⟨y0, y1, y2⟩ := HY.out
  unfold st3 at HF y0 y1 y2
  generalize (((w1.setCell ⟨w.heap.size + 1 + 1, 0, none⟩ (.bool false)).setCell ⟨w.heap.size + 1 + 1, 1, none⟩ (.slice (some ⟨gP, 0, none⟩) n cP)).setCell ⟨w.heap.size + 1 + 1, 2, none⟩ (.slice aL m cL)) = wf at *
  (try simp only [Exit.inBlock, Exit.then])
  refine bodyPost_ret (by simp [results, Tryz.results7, go_sem, y0, y1, y2]; try rfl) rfl ?_
  exact HF.out
theorem laysTensor : Lays 13 5 := fun B1 pa pb bb w GA GB h1 h2 h3 h4 h5 h6 h7 h8 h9 h10 => prodTens_spec h1 h2 h3 h4 h5 h6 h7 h8 h9 h10
set_option maxHeartbeats 8000000 in
set_option maxRecDepth 20000 in
theorem impTensor_spec {B : Nat} {w : World} {ga gb : IG} {gav gbv : Value} (hga : GraphAt B w gav ga) (hgb : GraphAt B w gbv gb) (hB : B ≤ w.heap.size) (gda : GoodU ga) (gdb : GoodU gb) (a0 : 0 < ga.nodes.length) (b0 : 0 < gb.nodes.length) (a8 : ga.nodes.length ≤ 8) (b8 : gb.nodes.length ≤ 8) :
    Calls Tryz.prog 6 #[gav, gbv] w (ImpPost w ga gb 5) := by
  have heg : ∀ args w, (callFunc 13 args).run Tryz.prog w = .ok (.enter 13 args) w := enters_of Tryz.func13 (by kernel_rfl) rfl
  have hmu := fun W (hk : Keep (fun _ => False) w W) => multiply_spec heg laysTensor (hga.keepF hk) (hgb.keepF hk) (Nat.le_trans hB hk.size) gda gdb a0 b0 a8 b8
  have hda := gda.dir
  have hdb := gdb.dir
  obtain ⟨na, nn, nc, ea, en, ec, rfl⟩ := graph_form hga
  obtain ⟨na', nn', nc', ea', en', ec', rfl⟩ := graph_form hgb
  rw [hda] at *
  rw [hdb] at *
  obtain ⟨hkx, hx2, hsx⟩ := box2 (w := w) (.cells #[.bool false, .slice na nn nc, .slice ea en ec] 25 (0, 0)) (.cells #[.bool false, .slice na' nn' nc', .slice ea' en' ec'] 25 (0, 0)) (.cells #[.bool false, .slice none 0 0, .slice none 0 0] 31 (0, 0))
  have HMU := Lib.hid hmu
  have HKX := Lib.hid hkx
  have HX2 := Lib.hid hx2
  have HSX := Lib.hid hsx
  clear hmu hga hgb hda hdb heg hkx hx2 hsx
  go_enter Tryz.func6, Tryz.ntmps6
  go_wp2_with (first
    | (((with_reducible refine (HMU.out _ HKX.out).mono ?_); rintro e w1 hp); obtain ⟨gP, n, cP, aL, m, cL, rfl, ⟨x0, x1, x2, f0, f1, f2⟩, hy, hf⟩ := impTail HX2.out HKX.out HSX.out hp; have HY := Lib.hid hy; have HF := Lib.hid hf; clear hp hy hf))
  obtain ⟨y0, y1, y2⟩ := HY.out
  unfold st3 at HF y0 y1 y2
  generalize (((w1.setCell ⟨w.heap.size + 1 + 1, 0, none⟩ (.bool false)).setCell ⟨w.heap.size + 1 + 1, 1, none⟩ (.slice (some ⟨gP, 0, none⟩) n cP)).setCell ⟨w.heap.size + 1 + 1, 2, none⟩ (.slice aL m cL)) = wf at *
  (try simp only [Exit.inBlock, Exit.then])
  refine bodyPost_ret (by simp [results, Tryz.results6, go_sem, y0, y1, y2]; try rfl) rfl ?_
  exact HF.out
end Go.Proofs.YtdaccgelmcmfjaaGreatDoor
end
/- What is known of a product of two graphs of at most four nodes; its colours. -/
section
namespace Go.Proofs.YtdaccgelmcmfjaaGreatDoor
open Go.RowKit Go.V
def FewU (g : IG) : Prop := g.dir = false ∧ g.nodes.length ≤ 4 ∧ g.edges.length ≤ 32 ∧ g.Good
theorem FewU.good {g : IG} (h : FewU g) : GoodU g := ⟨h.2.2.2, h.1, by have := h.2.1; omega, by have := h.2.2.1; omega⟩
theorem two_box (w : World) (x y : Obj) : ((w.alloc x).alloc y).heap[w.heap.size]? = some x ∧ ((w.alloc x).alloc y).heap[w.heap.size + 1]? = some y ∧ Keep (fun _ => False) w ((w.alloc x).alloc y) :=
  ⟨(heap_old (by simp)).trans (heap_new w x), new_at (by simp) y, ((Keep.refl _ w).alloc x).alloc y⟩
structure PrI (r : Nat) (ga gb : IG) (GA GB : PG) (L : List Lnk) : Prop where
  ua : UG GA
  ub : UG GB
  ra : Reads ga GA
  rb : Reads gb GB
  srt : L.Pairwise llt
  mem : ∀ U V, (U, V) ∈ L ↔ U ∈ pairsOf GA.ids GB.ids ∧ V ∈ pairsOf GA.ids GB.ids ∧ plt U V ∧ RelK r GA.adj GB.adj U V
theorem PrI.len {r : Nat} {ga gb : IG} {GA GB : PG} {L : List Lnk} (h : PrI r ga gb GA GB L) (a4 : FewU ga) (b4 : FewU gb) : (pairsOf GA.ids GB.ids).length ≤ 16 := by
  rw [pairsOf_length, h.ra.ids, h.rb.ids, isort_length, isort_length]
  exact Nat.le_trans (Nat.mul_le_mul a4.2.1 b4.2.1) (by decide)
theorem PrI.pos {r : Nat} {ga gb : IG} {GA GB : PG} {L : List Lnk} (h : PrI r ga gb GA GB L) (a0 : 0 < ga.nodes.length) (b0 : 0 < gb.nodes.length) : 0 < (pairsOf GA.ids GB.ids).length := by
  rw [pairsOf_length, h.ra.ids, h.rb.ids, isort_length, isort_length]
  exact Nat.mul_pos a0 b0
theorem PrI.mem' {r : Nat} {ga gb : IG} {GA GB : PG} {L : List Lnk} (h : PrI r ga gb GA GB L) : ∀ l ∈ L, l.1 ∈ pairsOf GA.ids GB.ids ∧ l.2 ∈ pairsOf GA.ids GB.ids := fun l hl => by
  obtain ⟨U, V⟩ := l
  have := (h.mem U V).1 hl
  exact ⟨this.1, this.2.1⟩
theorem PrI.few {r : Nat} {ga gb : IG} {GA GB : PG} {L : List Lnk} (h : PrI r ga gb GA GB L) (a4 : FewU ga) (b4 : FewU gb) : L.length ≤ 256 := by
  have h1 := links_few h.srt h.mem'
  have h2 := h.len a4 b4
  exact Nat.le_trans h1 (Nat.le_trans (Nat.mul_le_mul h2 h2) (by decide))
theorem PrI.good {r : Nat} {ga gb : IG} {GA GB : PG} {L : List Lnk} (h : PrI r ga gb GA GB L) (a4 : FewU ga) (b4 : FewU gb) : GoodU (prodG (pairsOf GA.ids GB.ids) L) := by
  refine prodG_good (fun l hl => ?_) (by have := h.len a4 b4; omega) (by have := h.few a4 b4; omega)
  obtain ⟨h1, h2⟩ := h.mem' l hl
  refine ⟨h1, h2, fun e => ?_⟩
  obtain ⟨U, V⟩ := l
  have := ((h.mem U V).1 hl).2.2.1
  have e : U = V := e
  rw [e] at this
  exact plt_irrefl _ this
theorem chP {r : Nat} {w : World} {gv : Value} {ga gb : IG} {GA GB : PG} {L : List Lnk} (h : PrI r ga gb GA GB L) (a4 : FewU ga) (b4 : FewU gb) (a0 : 0 < ga.nodes.length) (b0 : 0 < gb.nodes.length) (hg : GraphAt w.heap.size w gv (prodG (pairsOf GA.ids GB.ids) L)) :
    Calls Tryz.prog 8 #[gv] w (ChPost w (prodG (pairsOf GA.ids GB.ids) L)) :=
  chromatic_spec hg (Nat.le_refl _) (h.good a4 b4) (by have := h.pos a0 b0; simpa [prodG, placesOf] using this) (by have := h.len a4 b4; simpa [prodG, placesOf] using this)
theorem last_facts {ga gb : IG} {GA GB GS GT GA' GB' GP GQ : PG} {L M : List Lnk} {ka kb y z : Nat} (hq : PrI 5 ga gb GA GB L) (hs : PrI 4 ga gb GS GT M) (fa : FewU ga) (fb : FewU gb) (a0 : 0 < ga.nodes.length) (b0 : 0 < gb.nodes.length) (ra' : Reads ga GA') (rb' : Reads gb GB')
    (ha : Chi GA'.ids GA'.adj ka) (hb : Chi GB'.ids GB'.adj kb) (rp : Reads (prodG (pairsOf GA.ids GB.ids) L) GP) (hp : Chi GP.ids GP.adj y) (rq : Reads (prodG (pairsOf GS.ids GT.ids) M) GQ) (hz : Chi GQ.ids GQ.adj z) :
    y ≤ ka ∧ y ≤ kb ∧ ka ≤ z ∧ kb ≤ z ∧ z ≤ ka * kb ∧ ka ≤ 4 ∧ kb ≤ 4 := by
  obtain ⟨t1, t2⟩ := tens_last hq.ra hq.rb ra' rb' hq.ua hq.ub hq.mem rp ha hb hp
  obtain ⟨s1, s2, s3⟩ := strong_last hs.ra hs.rb ra' rb' hs.ua hs.ub a0 b0 hs.mem rq ha hb hz
  have h1 := chi_le (fun u h => hq.ua.irr u ((reads_adj ra' hq.ra u u).1 h)) ha
  have h2 := chi_le (fun u h => hq.ub.irr u ((reads_adj rb' hq.rb u u).1 h)) hb
  rw [ra'.ids, isort_length] at h1
  rw [rb'.ids, isort_length] at h2
  exact ⟨t1, t2, s1, s2, s3, Nat.le_trans h1 fa.2.1, Nat.le_trans h2 fb.2.1⟩
theorem mul_fact {ka kb z : Nat} (h : z ≤ ka * kb) (ha : ka ≤ 4) (hb : kb ≤ 4) : (z : Int) ≤ wrap64 ((ka : Int) * (kb : Int)) := by
  have h1 : ka * kb ≤ 16 := Nat.le_trans (Nat.mul_le_mul ha hb) (by decide)
  rw [← Int.natCast_mul]
  unfold wrap64
  omega
end Go.Proofs.YtdaccgelmcmfjaaGreatDoor
end
