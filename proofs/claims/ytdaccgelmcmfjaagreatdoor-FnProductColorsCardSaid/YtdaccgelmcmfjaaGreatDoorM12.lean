/- impl.read. -/
import Derived.Test.YtdaccgelmcmfjaaGreatDoorJM11
import Derived.Deep.CutRange
set_option linter.all false
namespace Go.Proofs.YtdaccgelmcmfjaaGreatDoor
open Go.RowKit Go.V
structure IG where
  dir : Bool
  nodes : List Int
  edges : List (Int × Int × Int)
def edgeCells (es : List (Int × Int × Int)) : List Value := es.flatMap fun e => [.int .i64 e.1, .int .i64 e.2.1, .int .i64 e.2.2]
theorem edgeCells_length (es : List (Int × Int × Int)) : (edgeCells es).length = es.length * 3 := by
  induction es with
  | nil => rfl
  | cons e es ih => simp only [edgeCells, List.flatMap_cons, List.length_append, List.length_cons, List.length_nil] at ih ⊢; omega
theorem edgeCells_get : ∀ (es : List (Int × Int × Int)) (j : Nat) (e : Int × Int × Int), es[j]? = some e → (edgeCells es)[j * 3]? = some (.int .i64 e.1) ∧ (edgeCells es)[j * 3 + 1]? = some (.int .i64 e.2.1) ∧ (edgeCells es)[j * 3 + 2]? = some (.int .i64 e.2.2) := by
  intro es
  induction es with
  | nil => intro j e h; cases h
  | cons x es ih =>
    intro j e h
    cases j with
    | zero => cases h; exact ⟨rfl, rfl, rfl⟩
    | succ j =>
      have := ih j e h
      have hx : edgeCells (x :: es) = [.int .i64 x.1, .int .i64 x.2.1, .int .i64 x.2.2] ++ edgeCells es := rfl
      rw [hx, show (j + 1) * 3 = 3 + j * 3 by omega]
      refine ⟨?_, ?_, ?_⟩
      · rw [List.getElem?_append_right (by simp)]; simpa using this.1
      · rw [List.getElem?_append_right (by simp; omega)]; simpa [Nat.add_assoc, Nat.add_sub_cancel_left] using this.2.1
      · rw [List.getElem?_append_right (by simp; omega)]; simpa [Nat.add_assoc, Nat.add_sub_cancel_left] using this.2.2
def Row3 (B : Nat) (w : World) (v : Value) (es : List (Int × Int × Int)) : Prop :=
  (v = .slice none 0 0 ∧ es = []) ∨ ∃ b off cap, v = .slice (some ⟨b, off, none⟩) es.length cap ∧ b < B ∧ Cells w b off (edgeCells es) ∧ es.length ≤ cap ∧ cap ≤ maxLen
theorem Row3.keep {B : Nat} {w w' : World} {v : Value} {es : List (Int × Int × Int)} {S : Nat → Prop} (h : Row3 B w v es) (hk : Keep S w w') (hn : ∀ k, S k → B ≤ k) : Row3 B w' v es := by
  rcases h with h | ⟨b, off, cap, rfl, h1, h2, h3⟩
  · exact .inl h
  · exact .inr ⟨b, off, cap, rfl, h1, h2.keep hk (fun h => by have := hn _ h; omega), h3⟩
theorem Row3.mono {B B' : Nat} {w : World} {v : Value} {es : List (Int × Int × Int)} (h : Row3 B w v es) (hB : B ≤ B') : Row3 B' w v es := by
  rcases h with h | ⟨b, off, cap, rfl, h1, h2, h3⟩
  · exact .inl h
  · exact .inr ⟨b, off, cap, rfl, by omega, h2, h3⟩
def GraphAt (B : Nat) (w : World) (gv : Value) (g : IG) : Prop := ∃ nv ev, gv = .agg #[.bool g.dir, nv, ev] ∧ Row B w nv (ints g.nodes) ∧ Row3 B w ev g.edges
theorem GraphAt.keep {B : Nat} {w w' : World} {v : Value} {g : IG} {S : Nat → Prop} (h : GraphAt B w v g) (hk : Keep S w w') (hn : ∀ k, S k → B ≤ k) : GraphAt B w' v g := by
  obtain ⟨nv, ev, rfl, h1, h2⟩ := h
  exact ⟨nv, ev, rfl, h1.keep hk hn, h2.keep hk hn⟩
theorem GraphAt.mono {B B' : Nat} {w : World} {v : Value} {g : IG} (h : GraphAt B w v g) (hB : B ≤ B') : GraphAt B' w v g := by
  obtain ⟨nv, ev, rfl, h1, h2⟩ := h
  exact ⟨nv, ev, rfl, h1.mono hB, h2.mono hB⟩
def edgeOk (nodes : List Int) (e : Int × Int × Int) : Prop := e.1 ∈ nodes ∧ e.2.1 ∈ nodes ∧ e.1 ≠ e.2.1 ∧ -1099511627776 ≤ e.2.2 ∧ e.2.2 ≤ 1099511627776
structure IG.Good (g : IG) : Prop where
  nodup : g.nodes.Nodup
  edges : ∀ e ∈ g.edges, edgeOk g.nodes e
structure Reads (g : IG) (G : PG) : Prop where
  ids : G.ids = isort g.nodes
  adj : ∀ u v, G.adj u v ↔ ∃ e ∈ g.edges, (e.1 = u ∧ e.2.1 = v) ∨ (g.dir = false ∧ e.1 = v ∧ e.2.1 = u)
def ReadPost (w : World) (g : IG) (e : Ending) (w' : World) : Prop :=
  ∃ pb b, e = .returned (.tuple #[pV pb, .bool b]) ∧ Keep (fun _ => False) w w' ∧ w.heap.size ≤ pb ∧ (b = true ↔ g.Good) ∧ (b = true → ∃ G, Plain w'.heap.size w' pb G ∧ Reads g G)
theorem infoI64 : (Tryz.prog.info? 2).map (fun i => (i.zero, i.size, i.bytes)) = some (some (.int .i64 0), 1, 8) := by kernel_rfl
theorem infoSArc : (Tryz.prog.info? 212).map (fun i => (i.zero, i.size, i.bytes)) = some (some (.slice none 0 0), 1, 24) := by kernel_rfl
theorem mkRows (W : World) (k : Nat) (hk : k ≤ 1000) : (Instr.makeSlice 157 (.int .i64 (k : Int)) (.int .i64 (k : Int))).run Tryz.prog W = .ok (.slice (some ⟨W.heap.size, 0, none⟩) k k) (W.alloc (.cells (Array.replicate k (.slice none 0 0)) 212 (0, 0))) := by
  obtain ⟨i, hi, hz, hsize, hby⟩ := info_parts infoSArc
  have hr := run_make (P := Tryz.prog) W 157 212 i _ Tryz.underlying157 hi hz .i64 .i64 k k (by omega) (Int.le_refl _) (by rw [hby]; omega) (by omega)
  simp only [Int.toNat_natCast] at hr
  rw [hr, hsize]
  have : madeCells (Value.slice none 0 0).cells (k * 1) = Array.replicate k (.slice none 0 0) := by
    apply Array.ext_getElem?
    intro j
    by_cases hj : j < k <;> simp [madeCells, Value.cells, Array.getElem?_map, Array.getElem?_range, Array.getElem?_replicate, hj, Nat.mod_one]
  rw [this]
theorem three {W : World} {pb : Nat} {v x y : Value} {t : TypeId} (h : W.heap[pb]? = some (.cells #[v, x, y] t (0, 0))) :
    W.cell? ⟨pb, 0, none⟩ = some v ∧ W.cell? ⟨pb, 1, none⟩ = some x ∧ W.cell? ⟨pb, 2, none⟩ = some y ∧ ∀ i, W.frozen? ⟨pb, i, none⟩ = false :=
  ⟨by rw [cell_of h]; rfl, by rw [cell_of h]; rfl, by rw [cell_of h]; rfl, free_of h⟩
theorem three_alloc {W : World} {pb : Nat} {v x y : Value} {t : TypeId} (h : W.heap[pb]? = some (.cells #[v, x, y] t (0, 0))) (o : Obj) : (W.alloc o).heap[pb]? = some (.cells #[v, x, y] t (0, 0)) := by
  rw [heap_old (lt_of_get h)]; exact h
theorem three_set1 {W : World} {pb : Nat} {v x y : Value} {t : TypeId} (h : W.heap[pb]? = some (.cells #[v, x, y] t (0, 0))) (u : Value) : (W.setCell ⟨pb, 1, none⟩ u).heap[pb]? = some (.cells #[v, u, y] t (0, 0)) := by
  rw [heapV_setCell h]; rfl
theorem three_set2 {W : World} {pb : Nat} {v x y : Value} {t : TypeId} (h : W.heap[pb]? = some (.cells #[v, x, y] t (0, 0))) (u : Value) : (W.setCell ⟨pb, 2, none⟩ u).heap[pb]? = some (.cells #[v, x, u] t (0, 0)) := by
  rw [heapV_setCell h]; rfl
theorem new_at {X : World} {s : Nat} (hX : X.heap.size = s) (o : Obj) : (X.alloc o).heap[s]? = some o := hX ▸ heap_new X o
theorem Build.start {B0 B1 : Nat} {wc W : World} {pb ob ib n : Nat} {v : Value} {ids : List Int} (hn : ids.length = n) (hids : wc.ownsRow B1 2 1 v n (ints ids)) (hpB : pb < B1) (hBs : B1 ≤ wc.heap.size) (hpB0 : B0 ≤ pb) (asc : ids.Pairwise (· < ·)) (small : n ≤ 1000)
    (hk : Keep (fun b => b = pb) wc W) (hh : W.heap[pb]? = some (.cells #[v, .slice (some ⟨ob, 0, none⟩) n n, .slice (some ⟨ib, 0, none⟩) n n] 159 (0, 0)))
    (ho : W.heap[ob]? = some (.cells (Array.replicate n (.slice none 0 0)) 212 (0, 0))) (hi : W.heap[ib]? = some (.cells (Array.replicate n (.slice none 0 0)) 212 (0, 0))) (h1 : wc.heap.size ≤ ob) (h2 : wc.heap.size ≤ ib) (h3 : ob ≠ ib) :
    Build B0 W pb ob ib v ids (List.replicate (n + n) (.slice none 0 0)) (List.replicate (n + n) []) := by
  subst hn
  have hvb : ∀ g, v.ownBlock = some g → B1 ≤ g ∧ g < wc.heap.size := fun g hg => by
    obtain ⟨_, ⟨h, _⟩ | ⟨g', cap, cur, h, hb, hh', _⟩⟩ := hids
    · rw [h] at hg; cases hg
    · rw [h] at hg; cases hg; exact ⟨hb, lt_of_get hh'⟩
  have hids' : wc.ownsRow B0 2 1 v ids.length (ints ids) := by
    obtain ⟨hl, h | ⟨g', cap, cur, h, hb, hh'⟩⟩ := hids
    · exact ⟨hl, .inl h⟩
    · exact ⟨hl, .inr ⟨g', cap, cur, h, by omega, hh'⟩⟩
  refine ⟨hh, ownsRow_keep' hids' hk (fun g hg e => by have := hvb g hg; omega), asc, small, ?_, ?_, by simp, by simp, ?_, ?_, ⟨by omega, by omega, h3, fun e => ?_, fun e => ?_, fun e => ?_⟩, ⟨hpB0, by omega, by omega⟩⟩
  · rw [List.take_replicate, Nat.min_eq_left (by omega)]; simpa using ho
  · rw [List.drop_replicate, Nat.add_sub_cancel]; simpa using hi
  · intro j r l hr hl
    rw [List.getElem?_replicate] at hr hl
    split at hr
    · rw [if_pos ‹_›] at hl
      cases hr; cases hl
      exact ⟨⟨rfl, .inl ⟨rfl, rfl⟩⟩, List.Pairwise.nil, fun a ha => (by cases ha), fun g hg => (by cases hg)⟩
    · cases hr
  · intro j m r s g _ hr _ hg
    rw [List.getElem?_replicate] at hr
    split at hr
    · cases hr; cases hg
    · cases hr
  · have := hvb _ e; omega
  · have := hvb _ e; omega
  · have := hvb _ e; omega
theorem row_of_owns {B n : Nat} {w : World} {T : TypeId} {v : Value} {us : List Value} (h : w.ownsRow B T 1 v n us) : Row w.heap.size w v us := by
  obtain ⟨hl, ⟨rfl, rfl⟩ | ⟨g, cap, cur, rfl, hb, hh, h1, h2, h3, h4⟩⟩ := h
  · exact .inl ⟨rfl, List.length_eq_zero_iff.1 (by simpa using hl)⟩
  · rw [Nat.mul_one] at hl h4
    subst hl
    refine .inr ⟨g, 0, cap, rfl, lt_of_get hh, fun j u hu => ?_, h1, h2⟩
    rw [Nat.zero_add, cell_of hh]
    rw [← h4, List.getElem?_take] at hu
    split at hu
    · simpa using hu
    · cases hu
set_option maxRecDepth 20000 in
theorem index_core {B : Nat} {w : World} {pb : Nat} {iv ov nv : Value} {ids : List Int} (h1 : w.heap[pb]? = some (.cells #[iv, ov, nv] 159 (0, 0))) (h3 : Row B w iv (ints ids)) (asc : ids.Pairwise (· < ·)) (small : ids.length ≤ 1000) (k : Int) :
    Calls Tryz.prog 73 #[pV pb, .int .i64 k] w fun e w' => ∃ (i : Nat) (b : Bool), e = .returned (.tuple #[.int .i64 (i : Int), .bool b]) ∧ (b = true → ids[i]? = some k) ∧ (b = false → k ∉ ids) ∧ ∃ n, w' = w.drewN n := by
  have c0 := cell_of h1 0
  have f0 := free_of h1 0
  simp only [List.getElem?_toArray, List.getElem?_cons_zero, List.getElem?_cons_succ] at c0
  have hb := bs64_spec h3 asc k (by omega)
  have HB := Lib.hid hb
  clear hb h1 h3
  go_enter Tryz.func73, Tryz.ntmps73
  go_wp2_with (first | ((with_reducible refine HB.out.mono ?_); rintro e w1 ⟨i, b, rfl, q1, q2, q3, n, rfl⟩))
  go_ret2
  exact ⟨i, b, rfl, q2, q3, n, rfl⟩
theorem Build.keepF {B0 : Nat} {w w' : World} {pb ob ib : Nat} {iv : Value} {ids : List Int} {rows : List Value} {L : List (List Arc)} (h : Build B0 w pb ob ib iv ids rows L) (hk : Keep (fun _ => False) w w') : Build B0 w' pb ob ib iv ids rows L :=
  ⟨hk.get h.head (fun h => h), ownsRow_keep' h.ids_ hk (fun _ _ h => h), h.asc, h.small, hk.get h.out (fun h => h), hk.get h.in_ (fun h => h), h.len, h.lenL, fun j r l hr hl => ⟨(h.row j r l hr hl).1.keep hk (fun _ _ h => h), (h.row j r l hr hl).2⟩, h.apart, h.ne, h.low⟩
theorem Build.index {B0 : Nat} {w : World} {pb ob ib : Nat} {iv : Value} {ids : List Int} {rows : List Value} {L : List (List Arc)} (h : Build B0 w pb ob ib iv ids rows L) (k : Int) :
    Calls Tryz.prog 73 #[pV pb, .int .i64 k] w fun e w' => ∃ (i : Nat) (b : Bool), e = .returned (.tuple #[.int .i64 (i : Int), .bool b]) ∧ (b = true → ids[i]? = some k) ∧ (b = false → k ∉ ids) ∧ ∃ n, w' = w.drewN n :=
  index_core h.head (row_of_owns h.ids_) h.asc h.small k
theorem Build.plain {B0 : Nat} {w : World} {pb ob ib : Nat} {iv : Value} {ids : List Int} {rows : List Value} {L : List (List Arc)} (h : Build B0 w pb ob ib iv ids rows L) : Plain w.heap.size w pb ⟨ids, L.take ids.length⟩ := by
  refine ⟨⟨h.asc, by simp [h.lenL], h.small, fun l hl => ?_⟩, iv, _, _, rows.take ids.length, h.head, lt_of_get h.head, row_of_owns h.ids_, ?_, by simp [h.len], fun i row l hr hl => ?_⟩
  · obtain ⟨j, hj⟩ := List.mem_iff_getElem?.1 (List.mem_of_mem_take hl)
    have hjl := (List.getElem?_eq_some_iff.1 hj).1
    have hr : rows[j]? = some (rows[j]'(by rw [h.len, ← h.lenL]; exact hjl)) := List.getElem?_eq_getElem _
    have := h.row j _ l hr hj
    exact ⟨this.2.1, this.2.2.1⟩
  · refine .inr ⟨ob, 0, ids.length, by simp [h.len], lt_of_get h.out, ?_, by simp [h.len], by have := h.small; unfold maxLen; omega⟩
    have := Cells.of_heap h.out
    simpa using this
  · rw [List.getElem?_take] at hr hl
    split at hr
    · rw [if_pos ‹_›] at hl
      have := h.row i row l hr hl
      refine ⟨this.1, fun g hg => ?_⟩
      rcases this.1.form with ⟨e, _⟩ | ⟨g', cap, e, hlt, _⟩
      · rw [e] at hg; cases hg
      · rw [e] at hg; cases hg; exact hlt
    · cases hr
theorem isort_mem {xs : List Int} {x : Int} : x ∈ isort xs ↔ x ∈ xs := (isort_perm xs).mem_iff
def Laid (dir : Bool) (ids : List Int) (es : List (Int × Int × Int)) (L : List (List Arc)) : Prop :=
  ∀ i x, i < ids.length → (x ∈ keys L i ↔ ∃ e ∈ es, (ids[i]? = some e.1 ∧ ids[x]? = some e.2.1) ∨ (dir = false ∧ ids[i]? = some e.2.1 ∧ ids[x]? = some e.1))
theorem Laid.step {dir : Bool} {ids : List Int} {es : List (Int × Int × Int)} {L L' : List (List Arc)} (h : Laid dir ids es L) (hasc : ids.Pairwise (· < ·)) {i k : Nat} {e : Int × Int × Int} (hi : ids[i]? = some e.1) (hk : ids[k]? = some e.2.1)
    (hy : ∀ m x, x ∈ keys L' m ↔ x ∈ keys L m ∨ (m = i ∧ x = k) ∨ (m = ids.length + k ∧ x = i) ∨ (dir = false ∧ ((m = k ∧ x = i) ∨ (m = ids.length + i ∧ x = k)))) : Laid dir ids (es ++ [e]) L' := by
  have hinj : ∀ (i j : Nat) (x : Int), ids[i]? = some x → ids[j]? = some x → i = j := by
    intro i j x hi hj
    obtain ⟨h1, rfl⟩ := List.getElem?_eq_some_iff.1 hi
    obtain ⟨h2, e⟩ := List.getElem?_eq_some_iff.1 hj
    rcases Nat.lt_trichotomy i j with h3 | h3 | h3
    · have := List.pairwise_iff_getElem.1 hasc i j h1 h2 h3; omega
    · exact h3
    · have := List.pairwise_iff_getElem.1 hasc j i h2 h1 h3; omega
  intro m x hm
  rw [hy m x, h m x hm]
  constructor
  · rintro (⟨a, ha, h1⟩ | ⟨rfl, rfl⟩ | ⟨h1, _⟩ | ⟨hd, ⟨rfl, rfl⟩ | ⟨h1, _⟩⟩)
    · exact ⟨a, List.mem_append_left _ ha, h1⟩
    · exact ⟨e, by simp, .inl ⟨hi, hk⟩⟩
    · omega
    · exact ⟨e, by simp, .inr ⟨hd, hk, hi⟩⟩
    · omega
  · rintro ⟨a, ha, h1⟩
    rcases List.mem_append.1 ha with ha | ha
    · exact .inl ⟨a, ha, h1⟩
    · simp only [List.mem_singleton] at ha
      subst ha
      rcases h1 with ⟨h1, h2⟩ | ⟨hd, h1, h2⟩
      · exact .inr (.inl ⟨hinj _ _ _ h1 hi, hinj _ _ _ h2 hk⟩)
      · exact .inr (.inr (.inr ⟨hd, .inl ⟨hinj _ _ _ h1 hk, hinj _ _ _ h2 hi⟩⟩))
set_option maxHeartbeats 4000000 in
set_option maxRecDepth 20000 in
theorem read_spec {B : Nat} {w : World} {gv : Value} {g : IG} (hg : GraphAt B w gv g) (hB : B ≤ w.heap.size) (hn : g.nodes.length ≤ 1000) (he : g.edges.length ≤ 1000000) :
    Calls Tryz.prog 40 #[gv] w (ReadPost w g) := by
  obtain ⟨nv, ev, rfl, hnr, her⟩ := hg
  have hncell : ∃ a cap, nv = .slice a g.nodes.length cap ∧ ∀ k, k < g.nodes.length → ∃ ib off id, a = some ⟨ib, off, none⟩ ∧ g.nodes[k]? = some id ∧ ∀ W, Keep (fun _ => False) w W → W.cell? ⟨ib, off + k, none⟩ = some (.int .i64 id) := by
    rcases hnr with ⟨rfl, hu⟩ | ⟨ib, off, cap, rfl, hB, hc, hl, hm⟩
    · have : g.nodes = [] := by simpa [ints] using hu
      rw [this]
      exact ⟨none, 0, rfl, fun k hk => by cases hk⟩
    · rw [ints_length]
      refine ⟨_, cap, rfl, fun k hk => ⟨ib, off, _, rfl, List.getElem?_eq_getElem hk, fun W hk' => ?_⟩⟩
      have := hc k _ (ints_get (List.getElem?_eq_getElem hk))
      rw [hk'.cell (a := ⟨ib, off + k, none⟩) (World.block_lt_of_cell? _ _ this) (fun h => h)]; exact this
  obtain ⟨na, ncap, rfl, hncell⟩ := hncell
  have HNC := Lib.hid hncell
  generalize hnn : g.nodes.length = n at *
  have HNN := Lib.hid hnn
  clear hncell hnr hnn
  go_enter Tryz.func40, Tryz.ntmps40
  go_wp2_with fail
  obtain ⟨w0, hw0⟩ : ∃ w0, w0 = ((w.alloc (.cells #[.bool g.dir, .slice na n ncap, ev] 25 (0, 0))).alloc (.cells #[.slice none 0 0, .slice none 0 0, .slice none 0 0] 159 (0, 0))) := ⟨_, rfl⟩
  rw [← hw0]
  obtain ⟨pb, hpb⟩ : ∃ pb, pb = w.heap.size + 1 := ⟨_, rfl⟩
  rw [← hpb]
  have hk0 : Keep (fun _ => False) w w0 := by rw [hw0]; exact (by repeat first | exact Keep.refl _ _ | assumption | apply Keep.alloc | apply Keep.drewN | apply Keep.drew | (refine Keep.setCell ?_ _ (fun h => absurd h (Nat.lt_irrefl _))))
  have hs0 : w0.heap.size = w.heap.size + 2 := by rw [hw0]; simp
  have hg0 : w0.heap[w.heap.size]? = some (.cells #[.bool g.dir, .slice na n ncap, ev] 25 (0, 0)) := by
    rw [hw0, heap_old (by simp)]; exact heap_new w _
  have hp0 : w0.heap[pb]? = some (.cells #[.slice none 0 0, .slice none 0 0, .slice none 0 0] 159 (0, 0)) := by
    rw [hw0, hpb]
    have := heap_new (w.alloc (.cells #[.bool g.dir, .slice na n ncap, ev] 25 (0, 0))) (.cells #[.slice none 0 0, .slice none 0 0, .slice none 0 0] 159 (0, 0))
    simpa using this
  have hbp : w.heap.size < pb := by omega
  have hpw : pb < w0.heap.size := by omega
  clear hw0 hpb hs0
  have HK0 := Lib.hid hk0
  have HG0 := Lib.hid hg0
  have HP0 := Lib.hid hp0
  clear hk0 hg0 hp0
  go_loopw [18] (fun i wr => ∃ k v, i = .int .i64 ((k : Nat) : Int) ∧ k ≤ n ∧ wr.heap[pb]? = some (.cells #[v, .slice none 0 0, .slice none 0 0] 159 (0, 0)) ∧ wr.ownsRow w0.heap.size 2 1 v k (ints (g.nodes.take k)) ∧ Keep (fun b => b = pb) w0 wr) (fun i _ => n - (intOf i).toNat)
  case atStart => exact ⟨0, _, rfl, Nat.zero_le _, HP0.out, ⟨rfl, .inl ⟨rfl, rfl⟩⟩, Keep.refl _ _⟩
  case round =>
    obtain ⟨k, v, rfl, hkn, hph, hrow, hkw⟩ := hrel
    have hpc := cell_of hph 0
    simp only [List.getElem?_toArray, List.getElem?_cons_zero] at hpc
    have HPH := Lib.hid hph
    have HROW := Lib.hid hrow
    have HKW := Lib.hid hkw
    clear hph hrow hkw
    have hva : ∃ va vc, v = .slice va k vc := by
      obtain ⟨_, ⟨rfl, rfl⟩ | ⟨g, cap, cur, rfl, _⟩⟩ := HROW.out
      · exact ⟨_, _, rfl⟩
      · exact ⟨_, _, rfl⟩
    obtain ⟨va, vc, rfl⟩ := hva
    by_cases hlt : k < n
    · obtain ⟨ib, off, id, rfl, hid, hcc⟩ := HNC.out k hlt
      have hkw' : Keep (fun _ => False) w wr := HK0.out.trans HKW.out (fun b hb e => by omega)
      have c2 := hcc wr hkw'
      have HCC := Lib.hid hcc
      have HID := Lib.hid hid
      clear hcc hid hkw'
      go_wp2_with (first
        | (at_builtin; refine wpList_push2 rfl rfl HKW.out (by repeat first | exact Keep.refl _ _ | assumption | apply Keep.alloc | apply Keep.drewN | apply Keep.drew | (refine Keep.setCell ?_ _ (fun h => absurd h (Nat.lt_irrefl _)))) infoI64 Tryz.underlying156 rfl (by decide) _ k _ rfl HROW.out _ 1 1 [.int .i64 id] rfl rfl (World.news_of_block (heap_new wr _)) (by simp [Value.oneCell']) (by decide) (by unfold maxLen; omega) (by omega) ?_; intro g2 cap2 w2 hr2 hk2 hg2 hl2 hkk2; have hph2 := hkk2.get (Keep.get ((Keep.refl (fun _ => False) wr).alloc _) HPH.out (fun h => h)) (fun e => by obtain ⟨_, ⟨h, _⟩ | ⟨g, cap, cur, h, hb, _⟩⟩ := HROW.out <;> rw [h] at e <;> cases e; exact absurd hpw (Nat.not_lt.2 hb)); have hpc2 := cell_of hph2 0; have hpf2 := free_of hph2 0; simp only [List.getElem?_toArray, List.getElem?_cons_zero] at hpc2; have HPH2 := Lib.hid hph2; clear hph2))
      refine ⟨⟨k + 1, _, by go_num, by omega, by rw [heapV_setCell HPH2.out]; simp; rfl, ?_, hk2.setCell _ (fun _ => rfl)⟩, by simp [intOf]; omega⟩
      rw [show ints (g.nodes.take (k + 1)) = ints (g.nodes.take k) ++ [.int .i64 id] by rw [List.take_add_one, HID.out]; simp [ints]]
      refine ownsRow_keep' hr2 ((Keep.refl (fun b => b = pb) w2).setCell _ (fun _ => rfl)) (fun b hb e => ?_)
      cases hb; have e' : g2 = pb := e; omega
    · obtain rfl : k = n := by omega
      have HROW1 : Hid (wr.ownsRow w0.heap.size 2 1 (.slice va k vc) k (ints g.nodes)) := by
        have := HROW.out
        rw [show g.nodes.take k = g.nodes by rw [← HNN.out, List.take_length]] at this
        exact this
      clear HROW HNC
      go_wp2_with (first
        | ((with_reducible refine (sort64_spec HROW1.out (by omega)).mono ?_); rintro e w3 ⟨rfl, hr3, hk3⟩))
      have hne : ∀ b, (Value.slice va k vc).ownBlock = some b → w0.heap.size ≤ b := fun b e => by
        obtain ⟨_, ⟨h, _⟩ | ⟨g, cap, cur, h, hb, _⟩⟩ := HROW1.out <;> rw [h] at e <;> cases e
        exact hb
      have hph3 := hk3.get HPH.out (fun e => by have := hne _ e; omega)
      have hk03 : Keep (fun b => b = pb) w0 w3 := HKW.out.trans hk3 (fun b hb e => by have := hne _ e; omega)
      have HNE := Lib.hid hne
      have HR3 := Lib.hid hr3
      have HK03 := Lib.hid hk03
      have hpc3 := cell_of hph3 0
      simp only [List.getElem?_toArray, List.getElem?_cons_zero] at hpc3
      have HPH3 := Lib.hid hph3
      clear hk3 hne hr3 hk03 hph3 hpc HPH HROW1 HKW
      go_upto_region 8 with fail
      go_cut [50] from 38 to 50 (fun c wx => c = .bool (decide (¬ g.nodes.Nodup)) ∧ Keep (fun _ => False) w3 wx)
      case first =>
        have hcl : ∀ W, W = w3.drew → Calls Tryz.prog 72 #[.slice va k vc] W fun e w' => ∃ v', e = .returned v' ∧ w'.ownsRow w3.heap.size 2 1 v' k (ints (isort g.nodes)) ∧ Keep (fun _ => False) w3 w' := fun W hW => by
          subst hW
          refine (clone64_spec (ownsRow_keep' HR3.out ((Keep.refl (fun _ => False) w3).drew) (fun _ _ h => h)) (by omega)).mono ?_
          rintro e w' ⟨v', rfl, q1, q2⟩
          exact ⟨v', rfl, q1, Keep.trans (Keep.refl _ _).drew q2 (fun _ _ h => h)⟩
        have HCL := Lib.hid hcl
        clear hcl
        have hlk : (Lib.compact (isort g.nodes)).length ≤ k := by
          have := List.length_filter_le (Lib.keeps (isort g.nodes).toArray) (List.range (isort g.nodes).length)
          unfold Lib.compact Lib.compactUpTo; rw [List.length_map]; rw [List.length_range, isort_length, HNN.out] at this; rwa [isort_length, HNN.out]
        have hdec : (((Lib.compact (isort g.nodes)).length : Int) != (k : Int)) = decide (¬ g.nodes.Nodup) := by
          have h1 := compact_iff (isort g.nodes) (isort_sorted _)
          rw [isort_length, HNN.out, (isort_perm g.nodes).nodup_iff] at h1
          rw [Bool.eq_iff_iff]
          simp only [bne_iff_ne, ne_eq, decide_eq_true_eq, ← h1]
          omega
        have HDEC := Lib.hid hdec
        clear hdec
        generalize hcn : (Lib.compact (isort g.nodes)).length = cn at *
        go_region_law (first
          | (go_simp; go_at_call 72; refine (HCL.out _ rfl).mono ?_; rintro e w4 ⟨v4, rfl, hr4, hk4⟩; have hpc4 : w4.cell? ⟨pb, 0, none⟩ = some (.slice va k vc) := by rw [hk4.cell (a := ⟨pb, 0, none⟩) (lt_of_get HPH3.out) (fun h => h)]; exact hpc3)
          | (go_simp; go_at_call 71; refine (compact64_spec hr4 (by omega)).mono ?_; rintro e w5 ⟨a5, c5, rfl, hk5⟩; have hk35 : Keep (fun _ => False) w3 w5 := hk4.trans hk5 (fun b hb e => by obtain ⟨_, ⟨h, _⟩ | ⟨g, cap, cur, h, hb', _⟩⟩ := hr4 <;> rw [h] at e <;> cases e; exact absurd hb (Nat.not_lt.2 hb')); have hpc5 : w5.cell? ⟨pb, 0, none⟩ = some (.slice va k vc) := by rw [hk35.cell (a := ⟨pb, 0, none⟩) (lt_of_get HPH3.out) (fun h => h)]; exact hpc3))
        all_goals (go_wp2_with fail)
        all_goals go_meet
        all_goals exact ⟨congrArg Value.bool HDEC.out, hk35⟩
      case rest =>
        obtain ⟨rfl, hk4⟩ := hcut
        have hpb := HPH3.out
        have hk05 : Keep (fun b => b = pb) w0 wc := HK03.out.trans hk4 (fun _ _ h => h.elim)
        have hrow5 : wc.ownsRow w0.heap.size 2 1 (.slice va k vc) k (ints (isort g.nodes)) := ownsRow_keep' HR3.out hk4 (fun _ _ h => h)
        have hph5 := hk4.get HPH3.out (fun h => h)
        have hkw5 : Keep (fun _ => False) w wc := HK0.out.trans hk05 (fun b hb e => by omega)
        have HROW5 := Lib.hid hrow5
        have HK05 := Lib.hid hk05
        have HKW5 := Lib.hid hkw5
        have hpc5 := cell_of hph5 0
        have hpf5 := free_of hph5
        simp only [List.getElem?_toArray, List.getElem?_cons_zero] at hpc5
        have HPH5 := Lib.hid hph5
        have hgc : wc.heap[w.heap.size]? = some (.cells #[.bool g.dir, .slice na k ncap, ev] 25 (0, 0)) := hk05.get HG0.out (by omega)
        have HGC := Lib.hid hgc
        clear hgc
        clear hk4 hpb hk05 hrow5 hph5 hkw5 HR3 HK03 HPH3 hpc3
        by_cases hnd : g.nodes.Nodup
        · rw [show decide (¬ g.nodes.Nodup) = false by simpa using hnd]
          have hmk := fun W => mkRows W k hn
          have t1 := fun o => three (three_alloc HPH5.out o)
          have t2 := fun o o' => three (three_alloc (three_alloc HPH5.out o) o')
          have t3 := fun o u => three (three_set1 (three_alloc HPH5.out o) u)
          have t4 := fun o u => three (three_set2 (three_alloc HPH5.out o) u)
          have t5 := fun o u o' => three (three_alloc (three_set1 (three_alloc HPH5.out o) u) o')
          have t6 := fun o u o' => three (three_alloc (three_set2 (three_alloc HPH5.out o) u) o')
          have t7 := fun o o' u => three (three_set1 (three_alloc (three_alloc HPH5.out o) o') u)
          have t8 := fun o o' u => three (three_set2 (three_alloc (three_alloc HPH5.out o) o') u)
          go_upto_region 10 with fail
          go_cut [] from 52 to 69 (fun wx => ∃ ob ib, Build (w.heap.size + 1) wx pb ob ib (.slice va k vc) (isort g.nodes) (List.replicate (k + k) (.slice none 0 0)) (List.replicate (k + k) []) ∧ Keep (fun _ => False) w wx ∧ wx.heap[w.heap.size]? = some (.cells #[.bool g.dir, .slice na k ncap, ev] 25 (0, 0)))
          case first =>
            have hstart0 := fun (W : World) ob ib => Build.start (W := W) (ob := ob) (ib := ib) (by rw [isort_length]; exact HNN.out) HROW5.out hpw HK05.out.size hbp (isort_strict hnd) hn
            have HSTART := Lib.hid hstart0
            clear hstart0
            go_region
            all_goals (go_wp2_with fail)
            all_goals go_meet
            · exact ⟨wc.heap.size, wc.heap.size + 1, HSTART.out _ _ _ (by repeat first | exact Keep.refl _ _ | apply Keep.drew | apply Keep.alloc | (refine Keep.setCell ?_ _ (fun _ => rfl))) (three_set2 (three_set1 (three_alloc (three_alloc HPH5.out _) _) _) _)
                  (Keep.get (w := wc.alloc _) (S := fun b => b = pb) (by repeat first | exact Keep.refl _ _ | apply Keep.drew | apply Keep.alloc | (refine Keep.setCell ?_ _ (fun _ => rfl))) (heap_new wc _) (by have := HK05.out.size; omega))
                  (Keep.get (w := (wc.alloc _).alloc _) (S := fun b => b = pb) (by repeat first | exact Keep.refl _ _ | apply Keep.drew | apply Keep.alloc | (refine Keep.setCell ?_ _ (fun _ => rfl))) (new_at (by simp) _) (by have := HK05.out.size; omega)) (Nat.le_refl _) (by omega) (by omega), by repeat first | exact HKW5.out | apply Keep.drew | apply Keep.alloc | (refine Keep.setCell ?_ _ (fun h => absurd h (Nat.not_lt.2 (Nat.le_of_lt hbp)))), (Keep.get (w := wc) (S := fun b => b = pb) (by repeat first | exact Keep.refl _ _ | apply Keep.drew | apply Keep.alloc | (refine Keep.setCell ?_ _ (fun _ => rfl))) HGC.out (by omega))⟩
            · exact ⟨wc.heap.size, wc.heap.size + 1, HSTART.out _ _ _ (by repeat first | exact Keep.refl _ _ | apply Keep.drew | apply Keep.alloc | (refine Keep.setCell ?_ _ (fun _ => rfl))) (three_set2 (three_alloc (three_set1 (three_alloc HPH5.out _) _) _) _)
                  (Keep.get (w := wc.alloc _) (S := fun b => b = pb) (by repeat first | exact Keep.refl _ _ | apply Keep.drew | apply Keep.alloc | (refine Keep.setCell ?_ _ (fun _ => rfl))) (heap_new wc _) (by have := HK05.out.size; omega))
                  (Keep.get (w := ((wc.alloc _).setCell _ _).alloc _) (S := fun b => b = pb) (by repeat first | exact Keep.refl _ _ | apply Keep.drew | apply Keep.alloc | (refine Keep.setCell ?_ _ (fun _ => rfl))) (new_at (by simp) _) (by have := HK05.out.size; omega)) (Nat.le_refl _) (by omega) (by omega), by repeat first | exact HKW5.out | apply Keep.drew | apply Keep.alloc | (refine Keep.setCell ?_ _ (fun h => absurd h (Nat.not_lt.2 (Nat.le_of_lt hbp)))), (Keep.get (w := wc) (S := fun b => b = pb) (by repeat first | exact Keep.refl _ _ | apply Keep.drew | apply Keep.alloc | (refine Keep.setCell ?_ _ (fun _ => rfl))) HGC.out (by omega))⟩
            · exact ⟨wc.heap.size + 1, wc.heap.size, HSTART.out _ _ _ (by repeat first | exact Keep.refl _ _ | apply Keep.drew | apply Keep.alloc | (refine Keep.setCell ?_ _ (fun _ => rfl))) (three_set2 (three_set1 (three_alloc (three_alloc HPH5.out _) _) _) _)
                  (Keep.get (w := (wc.alloc _).alloc _) (S := fun b => b = pb) (by repeat first | exact Keep.refl _ _ | apply Keep.drew | apply Keep.alloc | (refine Keep.setCell ?_ _ (fun _ => rfl))) (new_at (by simp) _) (by have := HK05.out.size; omega))
                  (Keep.get (w := wc.alloc _) (S := fun b => b = pb) (by repeat first | exact Keep.refl _ _ | apply Keep.drew | apply Keep.alloc | (refine Keep.setCell ?_ _ (fun _ => rfl))) (heap_new wc _) (by have := HK05.out.size; omega)) (by omega) (Nat.le_refl _) (by omega), by repeat first | exact HKW5.out | apply Keep.drew | apply Keep.alloc | (refine Keep.setCell ?_ _ (fun h => absurd h (Nat.not_lt.2 (Nat.le_of_lt hbp)))), (Keep.get (w := wc) (S := fun b => b = pb) (by repeat first | exact Keep.refl _ _ | apply Keep.drew | apply Keep.alloc | (refine Keep.setCell ?_ _ (fun _ => rfl))) HGC.out (by omega))⟩
          case rest =>
            obtain ⟨ob, ib, hb6, hk6, hg6⟩ := hcut
            have hec : ∃ a cap, ev = .slice a g.edges.length cap ∧ ∀ m, m < g.edges.length → ∃ b off e, a = some ⟨b, off, none⟩ ∧ g.edges[m]? = some e ∧ ∀ W, Keep (fun _ => False) w W → W.cell? ⟨b, off + m * 3, none⟩ = some (.int .i64 e.1) ∧ W.cell? ⟨b, off + m * 3 + 1, none⟩ = some (.int .i64 e.2.1) ∧ W.cell? ⟨b, off + m * 3 + 2, none⟩ = some (.int .i64 e.2.2) := by
              rcases her with ⟨rfl, hu⟩ | ⟨b, off, cap, rfl, hB', hc, hl, hm⟩
              · rw [hu]; exact ⟨none, 0, rfl, fun m hm => by cases hm⟩
              · refine ⟨_, cap, rfl, fun m hm => ⟨b, off, _, rfl, List.getElem?_eq_getElem hm, fun W hk' => ?_⟩⟩
                obtain ⟨g1, g2, g3⟩ := edgeCells_get g.edges m _ (List.getElem?_eq_getElem hm)
                have r : ∀ i u, (edgeCells g.edges)[i]? = some u → W.cell? ⟨b, off + i, none⟩ = some u := fun i u hu => by
                  have := hc i u hu
                  rw [hk'.cell (a := ⟨b, off + i, none⟩) (World.block_lt_of_cell? _ _ this) (fun h => h)]; exact this
                exact ⟨r _ _ g1, r _ _ g2, r _ _ g3⟩
            obtain ⟨ea, ecap, rfl, hec⟩ := hec
            have HEC := Lib.hid hec
            have HB6 := Lib.hid hb6
            have HK6 := Lib.hid hk6
            have HG6 := Lib.hid hg6
            have gc := cell_of hg6
            generalize hE : g.edges.length = E at *
            have HEL := Lib.hid hE
            have gc2 : wc.cell? ⟨w.heap.size, 2, none⟩ = some (.slice ea E ecap) := by rw [gc]; rfl
            clear hec hb6 hk6 hg6 her gc t1 t2 t3 t4 t5 t6 t7 t8 hmk hE hpf5
            go_wp2_with fail
            go_loopw [73] (fun i wr => ∃ (m : Nat) (rows : List Value) (L : List (List Arc)), i = .int .i64 (m : Int) ∧ m ≤ E ∧ Build (w.heap.size + 1) wr pb ob ib (.slice va k vc) (isort g.nodes) rows L ∧ Keep (fun _ => False) w wr ∧ wr.heap[w.heap.size]? = some (.cells #[.bool g.dir, .slice na k ncap, .slice ea E ecap] 25 (0, 0)) ∧
                (∀ e ∈ g.edges.take m, edgeOk g.nodes e) ∧ Laid g.dir (isort g.nodes) (g.edges.take m) L) (fun i _ => E - (intOf i).toNat)
            case atStart =>
              refine ⟨0, _, _, rfl, Nat.zero_le _, HB6.out, HK6.out, HG6.out, fun e he => (by cases he), fun i x hi => ?_⟩
              have : keys (List.replicate (k + k) []) i = [] := by
                unfold keys; rw [List.getD_eq_getElem?_getD, List.getElem?_replicate]; split <;> rfl
              rw [this]; simp
            case round =>
              obtain ⟨m, rows, L, rfl, hmE, hb, hkw, hgr, hok, hlaid⟩ := hrel
              have HB7 := Lib.hid hb
              have HK7 := Lib.hid hkw
              have HG7 := Lib.hid hgr
              have HOK := Lib.hid hok
              have HLD := Lib.hid hlaid
              clear hb hkw hgr hok hlaid
              by_cases hlt : m < E
              · obtain ⟨eb, eoff, e, rfl, hem, hcc⟩ := HEC.out m hlt
                obtain ⟨x1, x2, x3⟩ := hcc wr HK7.out
                have HEM := Lib.hid hem
                clear hcc hem
                have hix := fun W (hk : Keep (fun _ => False) wr W) x => (HB7.out.keepF hk).index x
                have hlay : ∀ W, Keep (fun _ => False) wr W → ∀ i1 i2, (isort g.nodes)[i1]? = some e.1 → (isort g.nodes)[i2]? = some e.2.1 → ∀ f, Calls Tryz.prog 74 #[pV pb, .int .i64 ((i1 : Nat) : Int), .int .i64 ((i2 : Nat) : Int), .float .f64 f, .bool g.dir] W fun e' w' => e' = .returned (.tuple #[]) ∧
                    ∃ rows' L', Build (w.heap.size + 1) w' pb ob ib (.slice va k vc) (isort g.nodes) rows' L' ∧ Keep (fun _ => False) w w' ∧ w'.heap[w.heap.size]? = some (.cells #[.bool g.dir, .slice na k ncap, .slice (some ⟨eb, eoff, none⟩) E ecap] 25 (0, 0)) ∧ Laid g.dir (isort g.nodes) (g.edges.take (m + 1)) L' := by
                  intro W hk i1 i2 h1 h2 f
                  have hwr : w.heap.size + 1 ≤ wr.heap.size := by have := lt_of_get HG7.out; omega
                  refine (lay_spec (HB7.out.keepF hk) (Nat.le_trans hwr hk.size) (List.getElem?_eq_some_iff.1 h1).1 (List.getElem?_eq_some_iff.1 h2).1 f g.dir).mono ?_
                  rintro e' w' ⟨rfl, rows', L', q1, q2, q3⟩
                  refine ⟨rfl, rows', L', q1, (HK7.out.trans hk (fun _ _ h => h)).trans q2 (fun b hb e => by omega), q2.get (hk.get HG7.out (fun h => h)) (by omega), ?_⟩
                  have := HLD.out.step HB7.out.asc h1 h2 q3
                  rwa [show g.edges.take m ++ [e] = g.edges.take (m + 1) by rw [List.take_add_one, HEM.out]; simp] at this
                have cg0 : ∀ o, (wr.alloc o).cell? ⟨w.heap.size, 0, none⟩ = some (.bool g.dir) := fun o => by rw [cell_of (by rw [heap_old (lt_of_get HG7.out)]; exact HG7.out)]; rfl
                have HIX := Lib.hid hix
                have HLAY := Lib.hid hlay
                clear hix hlay
                go_wp2_with (first
                  | (((with_reducible refine (HIX.out _ (by repeat first | exact Keep.refl _ _ | assumption | apply Keep.alloc | apply Keep.drewN | apply Keep.drew | (refine Keep.setCell ?_ _ (fun h => absurd h (Nat.lt_irrefl _)))) e.1).mono ?_); rintro e' w4 ⟨i1, b1, rfl, p1, p2, n1, rfl⟩))
                  | (((with_reducible refine (HIX.out _ (by repeat first | exact Keep.refl _ _ | assumption | apply Keep.alloc | apply Keep.drewN | apply Keep.drew | (refine Keep.setCell ?_ _ (fun h => absurd h (Nat.lt_irrefl _)))) e.2.1).mono ?_); rintro e' w5 ⟨i2, b2, rfl, p3, p4, n2, rfl⟩); have P1 := Lib.hid p1; have P3 := Lib.hid p3; rcases b1 with _ | _; have HBAD := Lib.hid (show ¬ edgeOk g.nodes e from fun h => p2 rfl (isort_mem.2 h.1)); clear p1 p2 p3 p4; rotate_left;
                      rcases b2 with _ | _; have HBAD := Lib.hid (show ¬ edgeOk g.nodes e from fun h => p4 rfl (isort_mem.2 h.2.1)); clear p1 p2 p3 p4; rotate_left; clear p1 p2 p3 p4;
                      by_cases hij : i1 = i2; have hij' : ((i1 : Int) == (i2 : Int)) = true := (by subst hij; simp); have HBAD := Lib.hid (show ¬ edgeOk g.nodes e from fun h => h.2.2.1 (Option.some.inj ((P1.out rfl).symm.trans (hij ▸ P3.out rfl)))); clear hij; rotate_left;
                      have hij' : ((i1 : Int) == (i2 : Int)) = false := (by simp; omega);
                      by_cases hW1 : 1099511627776 < e.2.2; have HBAD := Lib.hid (show ¬ edgeOk g.nodes e from fun h => (by have := h.2.2.2.2; omega)); rotate_left;
                      by_cases hW2 : e.2.2 < -1099511627776; have HBAD := Lib.hid (show ¬ edgeOk g.nodes e from fun h => (by have := h.2.2.2.1; omega)); rotate_left;
                      have HGD := Lib.hid (show edgeOk g.nodes e from ⟨isort_mem.1 (List.mem_of_getElem? (P1.out rfl)), isort_mem.1 (List.mem_of_getElem? (P3.out rfl)), fun h => hij (by
                        have a := P1.out rfl; rw [h] at a
                        obtain ⟨a1, a2⟩ := List.getElem?_eq_some_iff.1 a
                        obtain ⟨b1, b2⟩ := List.getElem?_eq_some_iff.1 (P3.out rfl)
                        rcases Nat.lt_trichotomy i1 i2 with h3 | h3 | h3
                        · have := List.pairwise_iff_getElem.1 HB7.out.asc i1 i2 a1 b1 h3; omega
                        · exact h3
                        · have := List.pairwise_iff_getElem.1 HB7.out.asc i2 i1 b1 a1 h3; omega), by omega, by omega⟩);
                      rotate_left)
                  | (((with_reducible refine (HLAY.out _ (by repeat first | exact Keep.refl _ _ | assumption | apply Keep.alloc | apply Keep.drewN | apply Keep.drew | (refine Keep.setCell ?_ _ (fun h => absurd h (Nat.lt_irrefl _)))) _ _ (P1.out (by trivial)) (P3.out (by trivial)) _).mono ?_); rintro e' w6 ⟨rfl, rows', L', q1, q2, q3, q4⟩); have Q1 := Lib.hid q1; have Q2 := Lib.hid q2; have Q3 := Lib.hid q3; have Q4 := Lib.hid q4; clear q1 q2 q3 q4))
                all_goals first
                  | (go_returns; exact ⟨pb, false, rfl, HK7.out.trans (by repeat first | exact Keep.refl _ _ | assumption | apply Keep.alloc | apply Keep.drewN | apply Keep.drew | (refine Keep.setCell ?_ _ (fun h => absurd h (Nat.lt_irrefl _)))) (fun _ _ h => h), by omega, ⟨fun h => (by cases h), fun h => absurd (h.edges e (List.mem_of_getElem? HEM.out)) HBAD.out⟩, fun h => (by cases h)⟩)
                  | exact ⟨⟨m + 1, rows', L', by go_num, by omega, Q1.out, Q2.out, Q3.out, (by
                      intro x hx
                      rw [List.take_add_one, HEM.out] at hx
                      rcases List.mem_append.1 hx with hx | hx
                      · exact HOK.out x hx
                      · simp at hx; rw [hx]; exact HGD.out), Q4.out⟩, by simp [intOf]; omega⟩
              · obtain rfl : m = E := by omega
                go_wp2_with fail
                go_returns
                refine ⟨pb, true, rfl, HK7.out, by omega, ⟨fun _ => ⟨hnd, fun e he => HOK.out e (by rw [← HEL.out, List.take_length]; exact he)⟩, fun _ => rfl⟩, fun _ => ⟨_, HB7.out.plain, rfl, fun u v => ?_⟩⟩
                have hld := HLD.out
                rw [← HEL.out, List.take_length] at hld
                have hln : (isort g.nodes).length = k := by rw [isort_length, HNN.out]
                constructor
                · rintro ⟨i, x, l, h1, h2, h3, h4⟩
                  have hi := (List.getElem?_eq_some_iff.1 h1).1
                  have hxk : x ∈ keys L i := by
                    unfold keys
                    have h3' : L[i]? = some l := by
                      have h3 : (L.take (isort g.nodes).length)[i]? = some l := h3
                      rw [List.getElem?_take, if_pos hi] at h3; exact h3
                    rw [List.getD_eq_getElem?_getD, h3']; exact h4
                  obtain ⟨e, he, h5⟩ := (hld i x hi).1 hxk
                  refine ⟨e, he, ?_⟩
                  rcases h5 with ⟨h5, h6⟩ | ⟨hd, h5, h6⟩
                  · exact .inl ⟨(Option.some.inj (h1.symm.trans h5)).symm, (Option.some.inj (h2.symm.trans h6)).symm⟩
                  · exact .inr ⟨hd, (Option.some.inj (h2.symm.trans h6)).symm, (Option.some.inj (h1.symm.trans h5)).symm⟩
                · rintro ⟨e, he, h5⟩
                  have hee := HOK.out e (by rw [← HEL.out, List.take_length]; exact he)
                  obtain ⟨i1, h1⟩ := List.mem_iff_getElem?.1 (isort_mem.2 hee.1)
                  obtain ⟨i2, h2⟩ := List.mem_iff_getElem?.1 (isort_mem.2 hee.2.1)
                  have hfin : ∀ i x, (isort g.nodes)[i]? = some u → (isort g.nodes)[x]? = some v → x ∈ keys L i → PG.adj ⟨isort g.nodes, L.take (isort g.nodes).length⟩ u v := by
                    intro i x h1 h2 h3
                    have hi := (List.getElem?_eq_some_iff.1 h1).1
                    refine ⟨i, x, L.getD i [], h1, h2, ?_, h3⟩
                    rw [List.getElem?_take, if_pos hi, List.getD_eq_getElem?_getD, List.getElem?_eq_getElem (by rw [HB7.out.lenL]; omega)]; rfl
                  rcases h5 with ⟨rfl, rfl⟩ | ⟨hd, rfl, rfl⟩
                  · exact hfin _ _ h1 h2 ((hld i1 i2 (List.getElem?_eq_some_iff.1 h1).1).2 ⟨e, he, .inl ⟨h1, h2⟩⟩)
                  · exact hfin _ _ h2 h1 ((hld i2 i1 (List.getElem?_eq_some_iff.1 h2).1).2 ⟨e, he, .inr ⟨hd, h2, h1⟩⟩)
        · rw [show decide (¬ g.nodes.Nodup) = true by simpa using hnd]
          go_wp2_with fail
          go_returns
          exact ⟨pb, false, rfl, HKW5.out, by omega, ⟨fun h => (by cases h), fun h => absurd h.nodup hnd⟩, fun h => (by cases h)⟩
end Go.Proofs.YtdaccgelmcmfjaaGreatDoor
