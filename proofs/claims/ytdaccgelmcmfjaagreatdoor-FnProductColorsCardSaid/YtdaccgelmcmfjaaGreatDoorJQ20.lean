/- impl.open, impl.bothWays on a good undirected graph. -/
import Derived.Test.YtdaccgelmcmfjaaGreatDoorM12
import Derived.Test.YtdaccgelmcmfjaaGreatDoorJG0
import Derived.BigRegion
import Derived.WalkKit
import Derived.ProofKit
import Derived.OpenShut
import Derived.Below
import Derived.Lib.SmallJoins
import Derived.Deep.Slices
import Derived.Deep.Strs
set_option linter.all false
section
namespace Go.Proofs.YtdaccgelmcmfjaaGreatDoor
open Go.RowKit Go.V
theorem GraphAt.keepF {B : Nat} {w w' : World} {v : Value} {g : IG} (h : GraphAt B w v g) (hk : Keep (fun _ => False) w w') : GraphAt B w' v g := h.keep hk (fun _ h => h.elim)
structure GoodU (g : IG) : Prop where
  good : g.Good
  dir : g.dir = false
  nodes : g.nodes.length ≤ 1000
  edges : g.edges.length ≤ 1000000
theorem GoodU.ug {g : IG} {G : PG} (h : GoodU g) (hr : Reads g G) (ho : G.Ok) : UG G := by
  refine ⟨ho, fun u v huv => ?_, fun u huu => ?_⟩
  · obtain ⟨e, he, h1⟩ := (hr.adj u v).1 huv
    refine (hr.adj v u).2 ⟨e, he, ?_⟩
    rcases h1 with ⟨a, b⟩ | ⟨_, a, b⟩
    · exact .inr ⟨h.dir, a, b⟩
    · exact .inl ⟨a, b⟩
  · obtain ⟨e, he, h1⟩ := (hr.adj u u).1 huu
    have hne := (h.good.edges e he).2.2.1
    rcases h1 with ⟨a, b⟩ | ⟨_, a, b⟩
    · exact hne (a.trans b.symm)
    · exact hne (a.trans b.symm)
theorem read_good {B : Nat} {w : World} {gv : Value} {g : IG} (hg : GraphAt B w gv g) (hB : B ≤ w.heap.size) (h : GoodU g) (W : World) (hk : Keep (fun _ => False) w W) :
    Calls Tryz.prog 40 #[gv] W fun e w' => ∃ pb G, e = .returned (.tuple #[pV pb, .bool true]) ∧ Keep (fun _ => False) W w' ∧ W.heap.size ≤ pb ∧ Plain w'.heap.size w' pb G ∧ Reads g G :=
  (read_spec (hg.keepF hk) (Nat.le_trans hB hk.size) h.nodes h.edges).mono (by
    rintro e w' ⟨pb, b, h1, h2, h3, h4, h5⟩
    obtain rfl : b = true := h4.2 h.good
    obtain ⟨G, h6, h7⟩ := h5 rfl
    exact ⟨pb, G, h1, h2, h3, h6, h7⟩)
theorem graph_form {B : Nat} {w : World} {gv : Value} {g : IG} (hg : GraphAt B w gv g) : ∃ na nn nc ea en ec, gv = .agg #[.bool g.dir, .slice na nn nc, .slice ea en ec] := by
  obtain ⟨nv, ev, rfl, h1, h2⟩ := hg
  rcases h1 with ⟨rfl, _⟩ | ⟨b, off, cap, rfl, _⟩ <;> rcases h2 with ⟨rfl, _⟩ | ⟨b', off', cap', rfl, _⟩ <;> exact ⟨_, _, _, _, _, _, rfl⟩
set_option maxHeartbeats 8000000 in
set_option maxRecDepth 20000 in
theorem open_good {B : Nat} {w : World} {gv : Value} {g : IG} (hg : GraphAt B w gv g) (hB : B ≤ w.heap.size) (h : GoodU g) :
    Calls Tryz.prog 20 #[gv] w fun e w' => ∃ pb G, e = .returned (.tuple #[gV pb, pV pb, .bool true]) ∧ Keep (fun _ => False) w w' ∧ w.heap.size ≤ pb ∧ Plain w'.heap.size w' pb G ∧ Reads g G := by
  have hr := read_good hg hB h
  have hd := h.dir
  obtain ⟨na, nn, nc, ea, en, ec, rfl⟩ := graph_form hg
  rw [hd] at *
  have HR := Lib.hid hr
  have hcc : ∀ W, Keep (fun _ => False) (w.alloc (.cells #[.bool false, .slice na nn nc, .slice ea en ec] 25 (0, 0))) W → W.cell? ⟨w.heap.size, 0, none⟩ = some (.bool false) := fun W hk => by
    rw [cell_of (hk.get (heap_new w _) (fun h => h))]; rfl
  have HCC := Lib.hid hcc
  clear hr hcc hg h hd
  go_enter Tryz.func20, Tryz.ntmps20
  go_wp2_with (first
    | (((with_reducible refine (HR.out _ (by repeat first | exact Keep.refl _ _ | assumption | apply Keep.alloc | apply Keep.drewN | apply Keep.drew | (refine Keep.setCell ?_ _ (fun h => absurd h (Nat.lt_irrefl _))))).mono ?_); rintro e w1 ⟨pb, G, rfl, q0, q1, q2, q3⟩); have c0 := HCC.out _ q0; have Q0 := Lib.hid q0; have Q2 := Lib.hid q2; have Q3 := Lib.hid q3; clear q0 q2 q3))
  go_ret3
  exact ⟨pb, G, rfl, ((Keep.refl (fun _ => False) w).alloc _).trans Q0.out (fun _ _ h => h), by (have h1 : (w.alloc (.cells #[.bool false, .slice na nn nc, .slice ea en ec] 25 (0, 0))).heap.size ≤ pb := q1; simp at h1; omega), Q2.out, Q3.out⟩
theorem Row.keepBox {B b : Nat} {w w' : World} {v : Value} {us : List Value} {t : TypeId} (h : Row B w v us) (hb : w.heap[b]? = some (.cells #[.pointer none] t (0, 0))) (hk : Keep (fun x => x = b) w w') (hne : ∀ u ∈ us, u ≠ .pointer none) : Row B w' v us := by
  rcases h with h | ⟨b', off, cap, rfl, h1, h2, h3⟩
  · exact .inl h
  · refine .inr ⟨b', off, cap, rfl, h1, fun j u hu => ?_, h3⟩
    have hc := h2 j u hu
    by_cases e : b' = b
    · subst e
      rw [cell_of hb] at hc
      exfalso
      have : u = .pointer none := by
        rcases Nat.eq_zero_or_pos (off + j) with h0 | h0
        · rw [h0] at hc; simpa using hc.symm
        · have h9 : (#[Value.pointer none] : Array Value)[off + j]? = none := by simp; omega
          rw [h9] at hc; cases hc
      exact hne u (List.mem_of_getElem? hu) this
    · rw [hk.cell (a := ⟨b', off + j, none⟩) (World.block_lt_of_cell? _ _ hc) e]; exact hc
theorem Plain.keepBox {B b pb : Nat} {w w' : World} {G : PG} (h : Plain B w pb G) (hb : w.heap[b]? = some (.cells #[.pointer none] 96 (0, 0))) (hk : Keep (fun x => x = b) w w') : Plain B w' pb G := by
  obtain ⟨ho, iv, ov, nv, rows, h1, h2, h3, h4, h5, h6⟩ := h
  refine ⟨ho, iv, ov, nv, rows, hk.get h1 (fun e => ?_), h2, h3.keepBox hb hk (fun u hu e => ?_), h4.keepBox hb hk (fun u hu e => ?_), h5, fun i row l hr hl => ?_⟩
  · rw [e, hb] at h1; cases h1
  · obtain ⟨x, _, hx⟩ := List.mem_map.1 hu
    rw [← hx] at e; cases e
  · obtain ⟨i, hi⟩ := List.mem_iff_getElem?.1 hu
    have hil : i < G.out.length := by rw [ho.len, ← h5]; exact (List.getElem?_eq_some_iff.1 hi).1
    have := (h6 i u _ hi (List.getElem?_eq_getElem hil)).1
    rcases this.form with ⟨e2, _⟩ | ⟨g, cap, e2, _⟩ <;> (rw [e2] at e; cases e)
  · obtain ⟨a, c⟩ := h6 i row l hr hl
    refine ⟨a.keep hk (fun g hg e => ?_), c⟩
    rcases a.2 with ⟨e2, _⟩ | ⟨g', cap, cur, e2, _, hh, _⟩
    · rw [e2] at hg; cases hg
    · rw [e2] at hg; cases hg
      have e : g' = b := e
      rw [e, hb] at hh; cases hh
set_option maxHeartbeats 8000000 in
set_option maxRecDepth 20000 in
theorem bothWays_good {B : Nat} {w : World} {gv : Value} {g : IG} (hg : GraphAt B w gv g) (hB : B ≤ w.heap.size) (h : GoodU g) :
    Calls Tryz.prog 30 #[gv] w fun e w' => ∃ pb G, e = .returned (.tuple #[uV pb, .bool true]) ∧ Keep (fun _ => False) w w' ∧ w.heap.size ≤ pb ∧ Plain w'.heap.size w' pb G ∧ Reads g G := by
  have hr := read_good hg hB h
  have hd := h.dir
  obtain ⟨na, nn, nc, ea, en, ec, rfl⟩ := graph_form hg
  rw [hd] at *
  have HR := Lib.hid hr
  have hcc : ∀ W, Keep (fun _ => False) ((w.alloc (.cells #[.bool false, .slice na nn nc, .slice ea en ec] 25 (0, 0))).alloc (.cells #[.pointer none] 96 (0, 0))) W →
      W.cell? ⟨w.heap.size, 0, none⟩ = some (.bool false) ∧ W.heap[w.heap.size + 1]? = some (.cells #[.pointer none] 96 (0, 0)) := fun W hk => by
    have ha : ((w.alloc (.cells #[.bool false, .slice na nn nc, .slice ea en ec] 25 (0, 0))).alloc (.cells #[.pointer none] 96 (0, 0))).heap[w.heap.size]? = _ := (heap_old (by simp)).trans (heap_new w _)
    exact ⟨by rw [cell_of (hk.get ha (fun h => h))]; rfl, hk.get (new_at (by simp) _) (fun h => h)⟩
  have HCC := Lib.hid hcc
  clear hcc hr hg h hd
  go_enter Tryz.func30, Tryz.ntmps30
  go_wp2_with (first
    | (((with_reducible refine (HR.out _ (by repeat first | exact Keep.refl _ _ | assumption | apply Keep.alloc | apply Keep.drewN | apply Keep.drew | (refine Keep.setCell ?_ _ (fun h => absurd h (Nat.lt_irrefl _))))).mono ?_); rintro e w1 ⟨pb, G, rfl, q0, q1, q2, q3⟩); obtain ⟨c0, c1⟩ := HCC.out _ q0; have c2 := cell_of c1 0; have f2 := free_of c1 0; simp only [List.getElem?_toArray, List.getElem?_cons_zero] at c2; have C1 := Lib.hid c1; have Q0 := Lib.hid q0; have Q2 := Lib.hid q2; have Q3 := Lib.hid q3; clear c1 q0 q2 q3))
  go_region
  all_goals
    have hk2 : Keep (fun b => b = w.heap.size + 1) w1 (w1.setCell ⟨w.heap.size + 1, 0, none⟩ (.pointer (some ⟨pb, 0, none⟩))).drew := ((Keep.refl (fun b => b = w.heap.size + 1) w1).setCell (a := ⟨w.heap.size + 1, 0, none⟩) _ (fun _ => rfl)).drew
    have hb2 : (w1.setCell ⟨w.heap.size + 1, 0, none⟩ (.pointer (some ⟨pb, 0, none⟩))).drew.heap[w.heap.size + 1]? = some (.cells #[.pointer (some ⟨pb, 0, none⟩)] 96 (0, 0)) := by
      show (w1.setCell ⟨w.heap.size + 1, 0, none⟩ (.pointer (some ⟨pb, 0, none⟩))).heap[w.heap.size + 1]? = _
      rw [heapV_setCell C1.out]; rfl
    have hc2 := cell_of hb2 0
    have hsz : ((w.alloc (.cells #[.bool false, .slice na nn nc, .slice ea en ec] 25 (0, 0))).alloc (.cells #[.pointer none] 96 (0, 0))).heap.size = w.heap.size + 2 := by simp
    have hpl := Q2.out.keepBox C1.out hk2
    have hszw : (w1.setCell ⟨w.heap.size + 1, 0, none⟩ (.pointer (some ⟨pb, 0, none⟩))).drew.heap.size = w1.heap.size := by simp
    go_wp2_with fail
    (try simp only [Exit.inBlock, Exit.then])
    refine bodyPost_ret (by simp [results, Tryz.results30, go_sem, hc2]; try rfl) rfl ?_
    refine ⟨pb, G, rfl, (((Keep.refl (fun _ => False) w).alloc _).alloc _).trans ((Q0.out.mono (T := fun b => b = w.heap.size + 1) (fun _ _ h => h.elim)).trans hk2 (fun _ _ h => h)) (fun b hb h => by omega), by omega, ?_, Q3.out⟩
    rw [hszw]; exact hpl
end Go.Proofs.YtdaccgelmcmfjaaGreatDoor
end
/- A graph that comes in as an argument, opened. -/
section
namespace Go.Proofs.YtdaccgelmcmfjaaGreatDoor
open Go.ChangeShapes Go.WideShapes Go.ChangeAt Go.RowKit Go.V Go.Joins Go.Deep
theorem cellsE : Tryz.prog.cellsOf 51 = 3 := by kernel_rfl
theorem cellsI : Tryz.prog.cellsOf 3 = 1 := by kernel_rfl
theorem lt_shape {w : World} {b : Nat} {x : TypeId × Nat} (h : w.shape? b = some x) : b < w.heap.size := by
  unfold World.shape? at h
  cases hx : w.heap[b]? with
  | none => rw [hx] at h; cases h
  | some o => exact (Array.getElem?_eq_some_iff.1 hx).1
set_option maxRecDepth 100000 in
theorem okSlice {w : World} {base : Nat} {t e : TypeId} {v : Value} (ht : Tryz.prog.underlying t = some (.slice e)) (h : Cell.okWide Tryz.prog w .any base t v) : v = .slice none 0 0 ∨ ∃ b off len cap, v = .slice (some ⟨b, off, none⟩) len cap ∧ len ≤ cap ∧ (cap : Int) ≤ IntKind.i64.max ∧ b < w.heap.size := by
  cases v with
  | slice a len cap =>
    simp only [Cell.okWide, ht, Cell.ok] at h
    cases a with
    | none =>
      left
      revert h
      match len, cap with
      | 0, 0 => exact fun _ => rfl
      | 0, _ + 1 => exact fun h => h.elim
      | _ + 1, _ => exact fun h => h.elim
    | some a =>
      right
      obtain ⟨h1, h2, h3⟩ := h
      obtain ⟨_, hs, row, cells, hsh, _⟩ := h3
      obtain ⟨b, off, spot⟩ := a
      have hs : spot = none := hs
      subst hs
      exact ⟨b, off, len, cap, rfl, h1, h2, lt_shape hsh⟩
  | _ => simp only [Cell.okWide, ht, Cell.ok] at h
set_option maxRecDepth 100000 in
theorem okCells {w : World} {base : Nat} {v0 v1 v2 : Value} (h : Value.okWide Tryz.prog w .any base 25 (.agg #[v0, v1, v2])) : Cell.okWide Tryz.prog w .any base 22 v1 ∧ Cell.okWide Tryz.prog w .any base 23 v2 := by
  unfold Value.okWide at h
  rw [Tryz.underlying25] at h
  obtain ⟨cs, e, _, ts, hts, _, hc⟩ := h
  have e : cs = #[v0, v1, v2] := by cases e; rfl
  subst e
  have ht : Tryz.prog.cellTypes Tryz.prog.depth 25 = some [4, 22, 23] := by kernel_rfl
  rw [ht] at hts
  have hts := Option.some.inj hts
  subst hts
  obtain ⟨u1, k1, r1⟩ := hc 1 v1 rfl
  obtain ⟨u2, k2, r2⟩ := hc 2 v2 rfl
  have k1 : some 22 = some u1 := k1
  have k2 : some 23 = some u2 := k2
  cases k1
  cases k2
  exact ⟨r1, r2⟩
theorem take_ints {zs : List Int} {len : Nat} (h : len ≤ zs.length) : (ints (zs.take len)).length = len := by rw [ints_length, List.length_take]; omega
section
variable {H : Type} {enc : TypeId × Value → H} {w : World} {base : Nat} {spare : Nat → Bool} {held : Bool}
set_option maxRecDepth 100000 in
theorem open_nodes {fuel : Nat} {v : Value} {x : DataW H × List MemPlace} (hv : Cell.okWide Tryz.prog w .any base 22 v) (h : DataW.trod enc Tryz.prog w 0 (fun _ => true) held fuel 22 [v] = some x) : ∃ xs : List Int, Row w.heap.size w v (ints xs) := by
  rcases okSlice Tryz.underlying22 hv with rfl | ⟨b, off, len, cap, rfl, h1, _, h3⟩
  · exact ⟨[], .inl ⟨rfl, rfl⟩⟩
  · rcases open_ints Tryz.underlying22 Tryz.underlying3 cellsI h with ⟨hcs, _⟩ | ⟨a, len', cap', zs, hcs, _, hl, hm, hz, _, hcell, _⟩
    · cases hcs
    · cases hcs
      have hz : zs.length = cap := by simpa using hz
      refine ⟨zs.take len, .inr ⟨b, off, cap, by rw [take_ints (by omega)], h3, fun j u hu => ?_, by rw [take_ints (by omega)]; exact hl, hm⟩⟩
      unfold ints at hu
      rw [List.getElem?_map, List.getElem?_take] at hu
      split at hu
      · rename_i hj
        have := hcell j (by omega)
        rw [List.getElem?_eq_getElem (by omega)] at hu
        cases hu
        rw [List.getD_eq_getElem?_getD, List.getElem?_eq_getElem (by omega)] at this
        rw [← Go.WideShapes.add_plain]
        exact this
      · cases hu
set_option maxRecDepth 100000 in
theorem open_edges {fuel : Nat} {v : Value} {x : DataW H × List MemPlace} (hv : Cell.okWide Tryz.prog w .any base 23 v) (h : DataW.trod enc Tryz.prog w 0 (fun _ => true) held fuel 23 [v] = some x) : ∃ es : List (Int × Int × Int), Row3 w.heap.size w v es := by
  rcases okSlice Tryz.underlying23 hv with rfl | ⟨b, off, len, cap, rfl, h1, _, h3⟩
  · exact ⟨[], .inl ⟨rfl, rfl⟩⟩
  · rcases open_slice Tryz.underlying23 h with ⟨hcs, _⟩ | ⟨a, len', cap', m, n, D, Pl, hcs, _, hl, hm, hmm, _, hx⟩
    · cases hcs
    · cases hcs
      have hmm : m = cap := by simpa using hmm
      have each : ∀ i, i < len → ∃ e : Int × Int × Int, w.cell? ⟨b, off + i * 3, none⟩ = some (.int .i64 e.1) ∧ w.cell? ⟨b, off + i * 3 + 1, none⟩ = some (.int .i64 e.2.1) ∧ w.cell? ⟨b, off + i * 3 + 2, none⟩ = some (.int .i64 e.2.2) := fun i hi => by
        obtain ⟨cs, hc, ht⟩ := hx i (by omega)
        obtain ⟨_, hlen, hcell⟩ := World.cells?_some hc
        rw [cellsE] at hlen hcell
        obtain ⟨y0, y1, y2, n', _, _, g0, g1, g2⟩ := Go.Deep.trod_struct3 Tryz.underlying51 ht
        match cs, hlen with
        | [u0, u1, u2], _ =>
          have g0 : DataW.trod enc Tryz.prog w 0 (fun _ => true) held n' 3 [u0] = some y0 := by simpa [cellsI] using g0
          have g1 : DataW.trod enc Tryz.prog w 0 (fun _ => true) held n' 3 [u1] = some y1 := by simpa [cellsI] using g1
          have g2 : DataW.trod enc Tryz.prog w 0 (fun _ => true) held n' 3 [u2] = some y2 := by simpa [cellsI] using g2
          obtain ⟨z0, q0, _, _⟩ := DataW.trod_int Tryz.underlying3 g0
          obtain ⟨z1, q1, _, _⟩ := DataW.trod_int Tryz.underlying3 g1
          obtain ⟨z2, q2, _, _⟩ := DataW.trod_int Tryz.underlying3 g2
          cases q0; cases q1; cases q2
          have c0 := hcell 0 (by decide)
          have c1 := hcell 1 (by decide)
          have c2 := hcell 2 (by decide)
          rw [Go.WideShapes.add_plain, Go.WideShapes.add_plain] at c0 c1 c2
          exact ⟨(z0, z1, z2), c0, c1, c2⟩
      obtain ⟨f, hf⟩ := choose_lt each
      have hfl : ((List.range len).map f).length = len := by simp
      refine ⟨(List.range len).map f, .inr ⟨b, off, cap, by rw [hfl], h3, fun j u hu => ?_, by rw [hfl]; exact hl, hm⟩⟩
      have hjl : j < len * 3 := by
        have := (List.getElem?_eq_some_iff.1 hu).1
        rw [edgeCells_length, hfl] at this; exact this
      have hq : ((List.range len).map f)[j / 3]? = some (f (j / 3)) := by
        rw [List.getElem?_map, List.getElem?_range (by omega)]; rfl
      obtain ⟨e0, e1, e2⟩ := edgeCells_get _ _ _ hq
      obtain ⟨c0, c1, c2⟩ := hf (j / 3) (by omega)
      have hj3 : j % 3 = 0 ∨ j % 3 = 1 ∨ j % 3 = 2 := by omega
      rcases hj3 with hj3 | hj3 | hj3
      · have ej : j = j / 3 * 3 := by omega
        rw [ej] at hu ⊢
        rw [e0] at hu; cases hu; exact c0
      · have ej : j = j / 3 * 3 + 1 := by omega
        rw [ej] at hu ⊢
        rw [e1] at hu; cases hu; rw [← Nat.add_assoc]; exact c1
      · have ej : j = j / 3 * 3 + 2 := by omega
        rw [ej] at hu ⊢
        rw [e2] at hu; cases hu; rw [← Nat.add_assoc]; exact c2
set_option maxRecDepth 100000 in
theorem open_graph {v : Value} {d : DataW H} {p : List MemPlace} (hv : Value.okWide Tryz.prog w .any base 25 v) (h : DataW.Trod enc Tryz.prog w 0 (fun _ => true) held 25 v d p) : ∃ g : IG, GraphAt w.heap.size w v g := by
  obtain ⟨v0, v1, v2, y0, y1, y2, n, rfl, _, _, h0, h1, h2⟩ := open_agg3 Tryz.underlying25 (by kernel_rfl) (by kernel_rfl) hv h
  obtain ⟨k1, k2⟩ := okCells hv
  obtain ⟨b, e, _⟩ := DataW.trod_bool Tryz.underlying4 h0
  cases e
  obtain ⟨xs, hr⟩ := open_nodes k1 h1
  obtain ⟨es, he⟩ := open_edges k2 h2
  exact ⟨⟨b, xs, es⟩, _, _, rfl, hr, he⟩
end
end Go.Proofs.YtdaccgelmcmfjaaGreatDoor
end
