/- slices.Insert at rows of arcs. -/
import Derived.Test.YtdaccgelmcmfjaaGreatDoorJM1
import Derived.Test.YtdaccgelmcmfjaaGreatDoorJV4
set_option linter.all false
section
namespace Go.Proofs.YtdaccgelmcmfjaaGreatDoor
open Go.RowKit Go.V
theorem infoArc : (Tryz.prog.info? 257).map (fun i => (i.zero, i.size, i.bytes)) = some (some (.agg #[.int .i64 0, .float .f64 0]), 2, 16) := by kernel_rfl
theorem infoArcSize : (Tryz.prog.info? 257).map (·.size) = some 2 := by kernel_rfl
theorem arc_one (l : List Arc) : ∀ u ∈ arcCells l, u.oneCell' = true := by
  intro u hu
  unfold arcCells at hu
  obtain ⟨p, _, hp⟩ := List.mem_flatMap.1 hu
  simp only [List.mem_cons, List.not_mem_nil, or_false] at hp
  rcases hp with rfl | rfl <;> rfl
theorem arcCells_take (l : List Arc) (i : Nat) (hi : i ≤ l.length) : (arcCells l).take (i * 2) = arcCells (l.take i) := by
  conv => lhs; rw [← List.take_append_drop i l, arcCells_append]
  rw [List.take_append_of_le_length (by rw [arcCells_length, List.length_take]; omega)]
  exact List.take_of_length_le (by rw [arcCells_length, List.length_take]; omega)
theorem arcCells_drop (l : List Arc) (i : Nat) (hi : i ≤ l.length) : (arcCells l).drop (i * 2) = arcCells (l.drop i) := by
  conv => lhs; rw [← List.take_append_drop i l, arcCells_append]
  rw [List.drop_append_of_le_length (by rw [arcCells_length, List.length_take]; omega)]
  rw [List.drop_of_length_le (by rw [arcCells_length, List.length_take]; omega)]
  rfl
def InsPost (w : World) (v : Value) (l' : List Arc) (e : Ending) (w' : World) : Prop :=
  ∃ v', e = .returned v' ∧ ArcRow w' v' l' ∧ Keep (fun g => v.ownBlock = some g) w w' ∧ (v'.ownBlock = v.ownBlock ∨ ∃ g, v'.ownBlock = some g ∧ w.heap.size ≤ g) ∧ w.heap.size ≤ w'.heap.size
set_option maxRecDepth 20000 in
theorem ins_end {w : World} {v : Value} {l : List Arc} (h : ArcRow w v l) (k b vb : Nat) (hvb : w.heap[vb]? = some (.cells #[.int .i64 (k : Int), .float .f64 b] 257 (0, 0))) (hlen : l.length ≤ 1000000) :
    Calls Tryz.prog 170 #[v, .int .i64 (l.length : Int), .slice (some ⟨vb, 0, none⟩) 1 1] w (InsPost w v (l ++ [(k, b)])) := by
  obtain ⟨i0, hi, hz0, hz1, hz2⟩ := info_parts infoArc
  have hnews : ∀ j u, ([.int .i64 (k : Int), .float .f64 b] : List Value)[j]? = some u → w.cell? ((⟨vb, 0, none⟩ : Addr).add j) = some u := World.news_of_block hvb
  have hown : w.ownsRow 0 257 2 v l.length (arcCells l) := h
  have hfin : ∀ g cap w', w'.ownsRow 0 257 2 (.slice (some ⟨g, 0, none⟩) (l.length + 1) cap) (l.length + 1) (arcCells l ++ [.int .i64 (k : Int), .float .f64 b]) → Keep (fun b => v.ownBlock = some b) w w' → (v.ownBlock = some g ∨ g = w.heap.size) → g < w'.heap.size →
      InsPost w v (l ++ [(k, b)]) (.returned (.slice (some ⟨g, 0, none⟩) (l.length + 1) cap)) w' := by
    intro g cap w' h1 h2 h3 h4
    refine ⟨_, rfl, ?_, h2, ?_, h2.size⟩
    · unfold ArcRow
      rw [arcCells_append, List.length_append]
      exact h1
    · rcases h3 with h3 | h3
      · exact .inl h3.symm
      · exact .inr ⟨g, rfl, by omega⟩
  have HF := Lib.hid hfin
  have HN := Lib.hid hnews
  rcases h.form with ⟨rfl, rfl⟩ | ⟨g, cap, rfl, hg, hc1, hc2⟩
  · clear h hnews hvb hfin
    go_enter Tryz.func170, Tryz.ntmps170
    go_wp2_with (first | (at_builtin; refine wpList_append_own' rfl rfl 257 i0 _ 2 16 Tryz.underlying212 hi hz0 hz1 hz2 rfl (by decide) _ 0 [] rfl hown ⟨vb, 0, none⟩ 1 1 _ rfl rfl HN.out (by simp [Value.oneCell']) (by decide) (by simp [maxLen]) (by simp) ?_; intro g cap w1 h1 h2 h3 h4))
    go_ret
    exact HF.out _ _ _ h1 h2 h3 h4
  · generalize hn : l.length = n at *
    clear h hnews hvb hfin
    have HL := Lib.hid hn
    clear hn
    unfold maxLen at hc2
    go_enter Tryz.func170, Tryz.ntmps170
    go_wp2_with (first | (at_builtin; refine wpList_append_own' rfl rfl 257 i0 _ 2 16 Tryz.underlying212 hi hz0 hz1 hz2 rfl (by decide) _ n _ rfl hown ⟨vb, 0, none⟩ 1 1 _ rfl rfl HN.out (by simp [Value.oneCell']) (by decide) (by simp [maxLen]; omega) (by omega) ?_; intro g cap w1 h1 h2 h3 h4))
    all_goals (go_ret; exact HF.out _ _ _ h1 h2 h3 h4)
theorem splice_ins {α : Type} (cur A N B : List α) (a m c : Nat) (hA : A.length = a) (hN : N.length = m) (hc : c = a + m + B.length) (hcur : cur.take (a + B.length) = A ++ B) (hl : c ≤ cur.length) :
    (((cur.take (a + m) ++ B ++ cur.drop (a + m + B.length)).take a ++ N ++ (cur.take (a + m) ++ B ++ cur.drop (a + m + B.length)).drop (a + m)).take c) = A ++ N ++ B := by
  have h1 : (cur.take (a + m)).length = a + m := by rw [List.length_take]; omega
  have hA' : (A ++ B).take a = A := by
    rw [List.take_append_of_le_length (by omega)]; exact List.take_of_length_le (by omega)
  have h2 : (cur.take (a + m) ++ B ++ cur.drop (a + m + B.length)).take a = A := by
    rw [List.append_assoc, List.take_append_of_le_length (by rw [h1]; omega), List.take_take, Nat.min_eq_left (by omega)]
    have := congrArg (List.take a) hcur
    rw [List.take_take, Nat.min_eq_left (by omega), hA'] at this
    exact this
  have h3 : (cur.take (a + m) ++ B ++ cur.drop (a + m + B.length)).drop (a + m) = B ++ cur.drop (a + m + B.length) := by
    rw [List.append_assoc, List.drop_append_of_le_length (by rw [h1]; omega), List.drop_of_length_le (by rw [h1]; omega)]; rfl
  rw [h2, h3, ← List.append_assoc, List.take_append_of_le_length (by simp; omega), List.take_of_length_le (by simp; omega)]
set_option maxRecDepth 20000 in
theorem ins_shift {w : World} {g cap n i : Nat} {l : List Arc} (h : ArcRow w (.slice (some ⟨g, 0, none⟩) n cap) l) (hn : l.length = n) (hi : i < n) (hroom : n + 1 ≤ cap) (k b vb : Nat) (hvb : w.heap[vb]? = some (.cells #[.int .i64 (k : Int), .float .f64 b] 257 (0, 0)))
    (hne : vb ≠ g) (hlen : n ≤ 1000000) :
    Calls Tryz.prog 170 #[.slice (some ⟨g, 0, none⟩) n cap, .int .i64 (i : Int), .slice (some ⟨vb, 0, none⟩) 1 1] w (InsPost w (.slice (some ⟨g, 0, none⟩) n cap) (l.take i ++ (k, b) :: l.drop i)) := by
  have hown : w.ownsRow 0 257 2 (.slice (some ⟨g, 0, none⟩) n cap) l.length (arcCells l) := h
  obtain ⟨hxl, hown⟩ := hown
  rcases hown with ⟨hv, _⟩ | ⟨g', cap', cur, hv, _, hh, h1, h2, h3, h4⟩
  · cases hv
  simp only [Value.slice.injEq, Option.some.injEq, Addr.mk.injEq] at hv
  obtain ⟨⟨rfl, -, -⟩, -, rfl⟩ := hv
  have hcl := arcCells_length l
  have hov : ∀ W, W.heap = w.heap → ∀ lb cb, (callFunc 196 #[.slice (some ⟨vb, 0, none⟩) 1 1, .slice (some ⟨g, (i + 1) * 2, none⟩) lb cb]).run Tryz.prog W = .ok (.value (.bool false)) W := fun W hW lb cb => by
    rw [run_callFunc_extern Tryz.func196 (by kernel_rfl) (by kernel_rfl) (by kernel_rfl) (e := Extern.SlicesOverlaps.overlaps #[212, 212] #[4]) (by kernel_rfl),
      Lib.run_overlaps_apart W 212 4 257 Tryz.underlying212 2 Tryz.sizeOf257 ⟨vb, 0, none⟩ ⟨g, (i + 1) * 2, none⟩ 1 1 lb cb hne 257 257 2 cur.size (by simp [World.shape?, hW, hvb]) (by simp [World.shape?, hW, hh]) (by omega) (by simp [World.frozen?, hW, hvb]) (by simp [World.frozen?, hW, hvb])]
    rfl
  -- the first copy: what stands from i on goes one place up
  let xs := arcCells l
  have hc1 : ∀ W, W.heap = w.heap → W.os = w.os → W.tape = w.tape → W.output = w.output → ∀ (o : Oper) (a : Act) (d s : Operand), o.op = .call { callee := .builtin .copy, args := #[d, s], argTypes := #[212, 212] } →
      a.eval d = .slice (some ⟨g, (i + 1) * 2, none⟩) (n - i) (cap - (i + 1)) → a.eval s = .slice (some ⟨g, i * 2, none⟩) (n + 1 - i) (cap - i) →
      ∃ w', (execOp a.eval o).run Tryz.prog W = .ok (.value (goInt (n - i : Nat))) w' ∧
        (w'.heap[g]? = some (.cells (cur.toList.take (i * 2 + 2) ++ arcCells (l.drop i) ++ cur.toList.drop (i * 2 + 2 + (arcCells (l.drop i)).length)).toArray 257 (0, 0)) ∧ Keep (fun b => b = g) w w' ∧ w'.heap.size = w.heap.size) := by
    intro W e1 e2 e3 e4 o a d s ho hd hs
    rw [show (i + 1) * 2 = i * 2 + 2 by omega] at hd
    have hmin : Nat.min (n + 1 - i) (n - i) = n - i := by simp only [Nat.min_def]; split <;> omega
    have := exec_copy_blk (P := Tryz.prog) (w := W) ho (elem := 257) (sz := 2) (cur := cur) (t := 257) (cs := arcCells (l.drop i)) hd hs Tryz.underlying212 infoArcSize (by rw [e1]; exact hh)
      (by rw [hmin, arcCells_length, List.length_drop]; omega)
      (fun j v hj => by
        rw [Addr.add_lit, World.cell?_of_block (w := w) (by rw [e1]), cell_of hh]
        rw [← arcCells_drop l i (by omega), List.getElem?_drop, ← h4, List.getElem?_take] at hj
        split at hj
        · simpa using hj
        · cases hj)
      (by rw [arcCells_length, List.length_drop]; omega) (arc_one _)
    rw [hmin] at this
    obtain ⟨w', g1, g2, g3, g4⟩ := this
    exact ⟨w', g1, g2, ⟨g3.os.trans e2, g3.tape.trans e3, g3.output.trans e4, by rw [← e1]; exact g3.size, fun k hk hn => by rw [g3.block k (by rw [e1]; exact hk) hn, e1]⟩, by rw [g4, e1]⟩
  have hc2 : ∀ W : World, W.heap[g]? = some (.cells (cur.toList.take (i * 2 + 2) ++ arcCells (l.drop i) ++ cur.toList.drop (i * 2 + 2 + (arcCells (l.drop i)).length)).toArray 257 (0, 0)) → Keep (fun b => b = g) w W → ∀ (o : Oper) (a : Act) (d s : Operand), o.op = .call { callee := .builtin .copy, args := #[d, s], argTypes := #[212, 212] } →
      a.eval d = .slice (some ⟨g, i * 2, none⟩) (n + 1 - i) (cap - i) → a.eval s = .slice (some ⟨vb, 0, none⟩) 1 1 →
      ∃ w', (execOp a.eval o).run Tryz.prog W = .ok (.value (goInt (1 : Nat))) w' ∧ InsPost w (.slice (some ⟨g, 0, none⟩) n cap) (l.take i ++ (k, b) :: l.drop i) (.returned (.slice (some ⟨g, 0, none⟩) (n + 1) cap)) w' := by
    intro W e1 e2 o a d s ho hd hs
    have hmin : Nat.min 1 (n + 1 - i) = 1 := by simp only [Nat.min_def]; split <;> omega
    have hvW : W.heap[vb]? = some (.cells #[.int .i64 (k : Int), .float .f64 b] 257 (0, 0)) := e2.get hvb hne
    have := exec_copy_blk (P := Tryz.prog) (w := W) ho (elem := 257) (sz := 2) (t := 257) (cs := [.int .i64 (k : Int), .float .f64 b]) hd hs Tryz.underlying212 infoArcSize e1
      (by rw [hmin]; rfl) (World.news_of_block hvW)
      (by simp only [List.size_toArray, List.length_append, List.length_take, List.length_drop, arcCells_length, Array.length_toList, List.length_cons, List.length_nil]; omega) (by simp [Value.oneCell'])
    rw [hmin] at this
    obtain ⟨w', g1, g2, g3, g4⟩ := this
    refine ⟨w', g1, _, rfl, ⟨?_, .inr ⟨g, cap, _, ?_, Nat.zero_le _, g2, ?_, h2, ?_, ?_⟩⟩, (e2.trans g3 (fun _ _ h => h)).mono (fun b _ hb => by rw [hb]; rfl), .inl rfl, by have := e2.size; omega⟩
    · exact arcCells_length _
    · simp; omega
    · simp; omega
    · simp only [List.size_toArray, List.length_append, List.length_take, List.length_drop, arcCells_length, Array.length_toList, List.length_cons, List.length_nil]; omega
    · have hlen1 : (l.take i ++ (k, b) :: l.drop i).length = n + 1 := by simp; omega
      rw [hlen1, show arcCells (l.take i ++ (k, b) :: l.drop i) = arcCells (l.take i) ++ [.int .i64 (k : Int), .float .f64 b] ++ arcCells (l.drop i) from by rw [arcCells_append, List.append_assoc]; rfl]
      refine splice_ins cur.toList (arcCells (l.take i)) _ (arcCells (l.drop i)) (i * 2) 2 ((n + 1) * 2) (by rw [arcCells_length, List.length_take]; omega) rfl (by rw [arcCells_length, List.length_drop]; omega) ?_ (by simp; omega)
      rw [← arcCells_append, List.take_append_drop, arcCells_length, List.length_drop, ← h4]
      congr 1; omega
  have HOV := Lib.hid hov
  have HC1 := Lib.hid hc1
  have HC2 := Lib.hid hc2
  have HL := Lib.hid hn
  unfold maxLen at h2
  have hi2 : ¬ (i : Int) = (n : Int) := by omega
  have hi3 : ((i : Int) == (n : Int)) = false := by simpa using hi2
  have hcap : ¬ cap = i + 1 := by omega
  have hcap2 : ¬ cap = i := by omega
  clear hov hc1 hc2 h hh hvb h4 hcl hn hxl h3
  go_enter Tryz.func170, Tryz.ntmps170
  have hov1 := HOV.out w rfl
  have s1 : IntKind.i64.wrap ((i : Int) + 1) = (i : Int) + 1 := IntWalk.i64_in _ (by omega)
  have s2 : (0 : Int) ≤ (i : Int) + 1 := by omega
  have s3 : ((i : Int) + 1).toNat = i + 1 := by omega
  have s4 : (i : Int) ≤ (n : Int) := by omega
  have s5 : (i : Int) ≤ (n : Int) + 1 := by omega
  go_wp2_with (first | (simp only [hov1]))
  go_region_law ((refine step_ex (by rfl) (HC1.out _ (by rfl) (by rfl) (by rfl) (by rfl) _ _ _ _ (by rfl) (by simp [Act.eval, Act.put]) (by simp [Act.eval, Act.put])) ?_; rintro w1 ⟨q1, q2, q3⟩))
  have hc2' := HC2.out _ q1 q2
  have HC2' := Lib.hid hc2'
  clear hc2' q1
  go_wp2_with (refine wpList_ex (by rfl) (HC2'.out _ _ _ _ (by with_reducible rfl) (by rfl) (by rfl)) ?_; intro w2 hfin)
  go_ret
  exact hfin
theorem splice_new {α : Type} (R A N B : List α) (a m c : Nat) (hA : A.length = a) (hN : N.length = m) (hc : c = a + m + B.length) (hR : R.take a = A) (hl : c ≤ R.length) :
    ((((R.take a ++ N ++ R.drop (a + m)).take (a + m)) ++ B ++ (R.take a ++ N ++ R.drop (a + m)).drop (a + m + B.length)).take c) = A ++ N ++ B := by
  have h1 : (R.take a ++ N ++ R.drop (a + m)).take (a + m) = A ++ N := by
    rw [hR, List.take_append_of_le_length (by simp; omega), List.take_of_length_le (by simp; omega)]
  rw [h1, List.take_append_of_le_length (by simp; omega), List.take_of_length_le (by simp; omega)]
set_option maxRecDepth 20000 in
theorem ins_grow {w : World} {g cap n i : Nat} {l : List Arc} (h : ArcRow w (.slice (some ⟨g, 0, none⟩) n cap) l) (hn : l.length = n) (hi : i < n) (hroom : cap < n + 1) (k b vb : Nat) (hvb : w.heap[vb]? = some (.cells #[.int .i64 (k : Int), .float .f64 b] 257 (0, 0)))
    (hlen : n ≤ 1000000) :
    Calls Tryz.prog 170 #[.slice (some ⟨g, 0, none⟩) n cap, .int .i64 (i : Int), .slice (some ⟨vb, 0, none⟩) 1 1] w (InsPost w (.slice (some ⟨g, 0, none⟩) n cap) (l.take i ++ (k, b) :: l.drop i)) := by
  obtain ⟨i0, hi0, hz0, hz1, hz2⟩ := info_parts infoArc
  have hgl : g < w.heap.size := by rcases h.form with ⟨q, _⟩ | ⟨g', c', q, hq, _⟩ <;> cases q; exact hq
  have hown : w.ownsRow 0 257 2 (.slice (some ⟨g, 0, none⟩) n cap) l.length (arcCells l) := h
  obtain ⟨hxl, hown⟩ := hown
  rcases hown with ⟨hv, _⟩ | ⟨g', cap', cur, hv, _, hh, h1, h2, h3, h4⟩
  · cases hv
  simp only [Value.slice.injEq, Option.some.injEq, Addr.mk.injEq] at hv
  obtain ⟨⟨rfl, -, -⟩, -, rfl⟩ := hv
  have hcell : ∀ j v, (arcCells l)[j]? = some v → w.cell? ⟨g, j, none⟩ = some v := fun j v hj => by
    rw [cell_of hh]
    rw [← h4, List.getElem?_take] at hj
    split at hj
    · simpa using hj
    · cases hj
  have hold : (Builtin.firstCells i0.size i (.slice (some ⟨g, 0, none⟩) i cap)).run Tryz.prog w.drew = .ok (arcCells (l.take i)).toArray w.drew := by
    rw [hz1]
    exact run_firstCells_some w.drew 2 i ⟨g, 0, none⟩ i cap (arcCells (l.take i)) (by rw [arcCells_length, List.length_take]; omega) (fun j v hj => by
      rw [Addr.add_lit, Nat.zero_add]
      rw [← arcCells_take l i (by omega), List.getElem?_take] at hj
      split at hj
      · exact hcell j v hj
      · cases hj)
  have hGn : n + 1 ≤ grownCap w (n + 1) cap 257 := grownCap_ge w _ _ _
  have hGm : grownCap w (n + 1) cap 257 ≤ maxLen := grownCap_le_maxLen w (n + 1) cap 257 (by unfold maxLen; omega)
  have hrz : ∀ ty, (Builtin.append_ #[212, 3] ty #[.slice (some ⟨g, 0, none⟩) i cap, .int .i64 ((n : Int) + 1 - (i : Int))]).run Tryz.prog w =
      .ok (.slice (some ⟨w.heap.size, 0, none⟩) (n + 1) (grownCap w (n + 1) cap 257)) (w.drew.alloc (.cells ((arcCells (l.take i)).toArray ++ Builtin.zeroCells #[Value.int .i64 0, Value.float .f64 0] (n + 1 - i) ++ Builtin.zeroCells #[Value.int .i64 0, Value.float .f64 0] (grownCap w (n + 1) cap 257 - (n + 1))) 257)) := fun ty => by
    have hk : i + (n + 1 - i) = n + 1 := by omega
    have := Lib.run_append_grow_zeros w 212 3 ty 257 i0 _ .i64 .i64 Tryz.underlying212 Tryz.underlying3 hi0 hz0 (some ⟨g, 0, none⟩) i cap (arcCells (l.take i)) hold (n + 1 - i) (by omega) (by omega) (by omega) (by omega) (by rw [hz2]; omega)
      (by rw [hz2, hk]; exact growslice_fits hroom (by omega))
    rw [hk] at this
    rw [show (n : Int) + 1 - (i : Int) = ((n + 1 - i : Nat) : Int) by omega]
    exact this
  generalize hG : grownCap w (n + 1) cap 257 = G at *
  obtain ⟨ROW, hROW⟩ : ∃ ROW : Array Value, ROW = (arcCells (l.take i)).toArray ++ Builtin.zeroCells #[Value.int .i64 0, Value.float .f64 0] (n + 1 - i) ++ Builtin.zeroCells #[Value.int .i64 0, Value.float .f64 0] (G - (n + 1)) := ⟨_, rfl⟩
  rw [← hROW] at hrz
  have hRsz : ROW.size = G * 2 := by
    rw [hROW]; simp [Builtin.zeroCells, arcCells_length]; omega
  have hRt : ROW.toList.take (i * 2) = arcCells (l.take i) := by
    rw [hROW]
    simp only [Array.toList_append]
    rw [List.append_assoc, List.take_append_of_le_length (by rw [arcCells_length, List.length_take]; omega), List.take_of_length_le (by rw [arcCells_length, List.length_take]; omega)]
  have hap : ∀ (o : Oper) (a : Act) (s x : Operand), o.op = .call { callee := .builtin .append, args := #[s, x], argTypes := #[212, 3] } →
      a.eval s = .slice (some ⟨g, 0, none⟩) i cap → a.eval x = .int .i64 ((n : Int) + 1 - (i : Int)) →
      ∃ w', (execOp a.eval o).run Tryz.prog w = .ok (.value (.slice (some ⟨w.heap.size, 0, none⟩) (n + 1) G)) w' ∧ (w'.heap[w.heap.size]? = some (.cells ROW 257 (0, 0)) ∧ Keep (fun _ => False) w w') := by
    intro o a s x ho hs hx
    exact ⟨_, run_append_op ho hs hx (hrz _), heap_new w.drew _, ((Keep.refl _ _).drew).alloc _⟩
  have hc1 : ∀ W : World, W.heap[w.heap.size]? = some (.cells ROW 257 (0, 0)) → Keep (fun _ => False) w W → ∀ (o : Oper) (a : Act) (d s : Operand), o.op = .call { callee := .builtin .copy, args := #[d, s], argTypes := #[212, 212] } →
      a.eval d = .slice (some ⟨w.heap.size, i * 2, none⟩) (n + 1 - i) (G - i) → a.eval s = .slice (some ⟨vb, 0, none⟩) 1 1 →
      ∃ w', (execOp a.eval o).run Tryz.prog W = .ok (.value (goInt (1 : Nat))) w' ∧ (w'.heap[w.heap.size]? = some (.cells (ROW.toList.take (i * 2) ++ ([.int .i64 (k : Int), .float .f64 b] : List Value) ++ ROW.toList.drop (i * 2 + 2)).toArray 257 (0, 0)) ∧ Keep (fun _ => False) w w') := by
    intro W e1 e2 o a d s ho hd hs
    have hmin : Nat.min 1 (n + 1 - i) = 1 := by simp only [Nat.min_def]; split <;> omega
    have hvW : W.heap[vb]? = some (.cells #[.int .i64 (k : Int), .float .f64 b] 257 (0, 0)) := e2.get hvb (fun h => h)
    have := exec_copy_blk (P := Tryz.prog) (w := W) ho (elem := 257) (sz := 2) (t := 257) (cs := [.int .i64 (k : Int), .float .f64 b]) hd hs Tryz.underlying212 infoArcSize e1
      (by rw [hmin]; rfl) (World.news_of_block hvW) (by simp; omega) (by simp [Value.oneCell'])
    rw [hmin] at this
    obtain ⟨w', g1, g2, g3, g4⟩ := this
    exact ⟨w', g1, g2, e2.trans g3 (fun b hb h => by omega)⟩
  have hc2 : ∀ W : World, W.heap[w.heap.size]? = some (.cells (ROW.toList.take (i * 2) ++ ([.int .i64 (k : Int), .float .f64 b] : List Value) ++ ROW.toList.drop (i * 2 + 2)).toArray 257 (0, 0)) → Keep (fun _ => False) w W → ∀ (W' : World), W'.heap = W.heap → W'.os = W.os → W'.tape = W.tape → W'.output = W.output → ∀ (o : Oper) (a : Act) (d s : Operand), o.op = .call { callee := .builtin .copy, args := #[d, s], argTypes := #[212, 212] } →
      a.eval d = .slice (some ⟨w.heap.size, (i + 1) * 2, none⟩) (n - i) (G - (i + 1)) → a.eval s = .slice (some ⟨g, i * 2, none⟩) (n - i) (cap - i) →
      ∃ w', (execOp a.eval o).run Tryz.prog W' = .ok (.value (goInt (n - i : Nat))) w' ∧ InsPost w (.slice (some ⟨g, 0, none⟩) n cap) (l.take i ++ (k, b) :: l.drop i) (.returned (.slice (some ⟨w.heap.size, 0, none⟩) (n + 1) G)) w' := by
    intro W e1 e2 W' q1 q2 q3 q4 o a d s ho hd hs
    have e2' : Keep (fun _ => False) w W' := ⟨q2.trans e2.os, q3.trans e2.tape, q4.trans e2.output, by rw [q1]; exact e2.size, fun k hk hn => by rw [q1]; exact e2.block k hk hn⟩
    have e1' := e1
    rw [← q1] at e1'
    rw [show (i + 1) * 2 = i * 2 + 2 by omega] at hd
    have hmin : Nat.min (n - i) (n - i) = n - i := Nat.min_self _
    have := exec_copy_blk (P := Tryz.prog) (w := W') ho (elem := 257) (sz := 2) (t := 257) (cs := arcCells (l.drop i)) hd hs Tryz.underlying212 infoArcSize e1'
      (by rw [hmin, arcCells_length, List.length_drop]; omega)
      (fun j v hj => by
        rw [Addr.add_lit, e2'.cell hgl (fun h => h)]
        rw [← arcCells_drop l i (by omega), List.getElem?_drop] at hj
        exact hcell _ v hj)
      (by simp only [List.size_toArray, List.length_append, List.length_take, List.length_drop, arcCells_length, Array.length_toList, List.length_cons, List.length_nil]; omega) (arc_one _)
    rw [hmin] at this
    obtain ⟨w', g1, g2, g3, g4⟩ := this
    refine ⟨w', g1, _, rfl, ⟨?_, .inr ⟨_, G, _, ?_, Nat.zero_le _, g2, ?_, hGm, ?_, ?_⟩⟩, (e2'.trans g3 (T := fun b => b = w.heap.size) (S := fun _ => False) (fun b hb h => by omega)).mono (fun _ _ h => h.elim), .inr ⟨_, rfl, Nat.le_refl _⟩, by have := e2'.size; omega⟩
    · exact arcCells_length _
    · simp; omega
    · simp; omega
    · simp only [List.size_toArray, List.length_append, List.length_take, List.length_drop, arcCells_length, Array.length_toList, List.length_cons, List.length_nil]; omega
    · have hlen1 : (l.take i ++ (k, b) :: l.drop i).length = n + 1 := by simp; omega
      rw [hlen1, show arcCells (l.take i ++ (k, b) :: l.drop i) = arcCells (l.take i) ++ [.int .i64 (k : Int), .float .f64 b] ++ arcCells (l.drop i) from by rw [arcCells_append, List.append_assoc]; rfl]
      exact splice_new ROW.toList (arcCells (l.take i)) _ (arcCells (l.drop i)) (i * 2) 2 ((n + 1) * 2) (by rw [arcCells_length, List.length_take]; omega) rfl (by rw [arcCells_length, List.length_drop]; omega) hRt (by simp; omega)
  have HAP := Lib.hid hap
  have HC1 := Lib.hid hc1
  have HC2 := Lib.hid hc2
  unfold maxLen at h2 hGm
  have hi2 : ¬ (i : Int) = (n : Int) := by omega
  have hi3 : ((i : Int) == (n : Int)) = false := by simpa using hi2
  have hcap2 : ¬ cap = i := by omega
  have hG1 : ¬ G = i := by omega
  have hG2 : ¬ G = i + 1 := by omega
  have s1 : IntKind.i64.wrap ((i : Int) + 1) = (i : Int) + 1 := IntWalk.i64_in _ (by omega)
  have s2 : (0 : Int) ≤ (i : Int) + 1 := by omega
  have s3 : ((i : Int) + 1).toNat = i + 1 := by omega
  have s4 : (i : Int) ≤ (n : Int) := by omega
  have s5 : (i : Int) ≤ (n : Int) + 1 := by omega
  have s6 : i ≤ cap := by omega
  have s7 : (i : Int) ≤ (cap : Int) := by omega
  clear hap hc1 hc2 h hh hvb h4 hn hxl h3 hG hrz hold hcell hROW hRsz hRt hgl hz0 hz1 hz2 hi0 h1
  go_enter Tryz.func170, Tryz.ntmps170
  go_wp2_with (first
    | (at_builtin; refine wpList_ex (by rfl) (HAP.out _ _ _ _ (by with_reducible rfl) (by rfl) (by rfl)) ?_; rintro w1 ⟨r1, r2⟩; have hc1' := HC1.out _ r1 r2; have HC1' := Lib.hid hc1'; clear hc1' r1 r2)
    | (refine wpList_ex (by rfl) (HC1'.out _ _ _ _ (by with_reducible rfl) (by rfl) (by rfl)) ?_; rintro w2 ⟨t1, t2⟩; have hc2' := HC2.out _ t1 t2; have HC2' := Lib.hid hc2'; clear hc2' t1 t2))
  go_region_law ((refine step_ex (by rfl) (HC2'.out _ (by rfl) (by rfl) (by rfl) (by rfl) _ _ _ _ (by rfl) (by simp [Act.eval, Act.put]) (by simp [Act.eval, Act.put])) ?_; intro w3 hfin))
  go_wp2
  go_ret
  exact hfin
theorem ins_spec {w : World} {v : Value} {l : List Arc} (h : ArcRow w v l) {i : Nat} (hi : i ≤ l.length) (k b vb : Nat) (hvb : w.heap[vb]? = some (.cells #[.int .i64 (k : Int), .float .f64 b] 257 (0, 0)))
    (hne : v.ownBlock ≠ some vb) (hlen : l.length ≤ 1000000) :
    Calls Tryz.prog 170 #[v, .int .i64 (i : Int), .slice (some ⟨vb, 0, none⟩) 1 1] w (InsPost w v (l.take i ++ (k, b) :: l.drop i)) := by
  by_cases he : i = l.length
  · subst he
    rw [List.take_length, List.drop_length]
    exact ins_end h k b vb hvb hlen
  · rcases h.form with ⟨rfl, rfl⟩ | ⟨g, cap, rfl, hg, hc1, hc2⟩
    · exact absurd (Nat.le_zero.1 hi) (by simpa using he)
    · by_cases hr : l.length + 1 ≤ cap
      · exact ins_shift h rfl (by omega) hr k b vb hvb (fun e => hne (by rw [e]; rfl)) hlen
      · exact ins_grow h rfl (by omega) (by omega) k b vb hvb hlen
end Go.Proofs.YtdaccgelmcmfjaaGreatDoor
end
/- impl.set: an arc laid into an ascending row. -/
section
namespace Go.Proofs.YtdaccgelmcmfjaaGreatDoor
open Go.RowKit Go.V
theorem arcCells_set (l : List Arc) (i k b b' : Nat) (h : l[i]? = some (k, b')) : (arcCells l).set (i * 2 + 1) (.float .f64 b) = arcCells (l.set i (k, b)) := by
  have hi : i < l.length := (List.getElem?_eq_some_iff.1 h).1
  apply List.ext_getElem?
  intro j
  rw [List.getElem?_set]
  have hm : j % 2 = 0 ∨ j % 2 = 1 := by omega
  by_cases hlt : j / 2 < l.length
  · have hp := arcCells_get l (j / 2) _ (List.getElem?_eq_getElem hlt)
    have hq := arcCells_get (l.set i (k, b)) (j / 2) _ (List.getElem?_eq_getElem (by rw [List.length_set]; exact hlt))
    rw [List.getElem_set] at hq
    rw [List.getElem?_eq_getElem hi] at h
    split
    · rename_i e
      have e1 : j / 2 = i := by omega
      rw [if_pos e1.symm] at hq
      rw [if_pos (by rw [arcCells_length]; omega)]
      rw [show j = j / 2 * 2 + 1 by omega, hq.2]
    · rename_i e
      by_cases e1 : i = j / 2
      · rw [if_pos e1] at hq
        subst e1
        have hlk : l[j / 2] = (k, b') := by simpa using h
        rcases hm with hm | hm
        · rw [show j = j / 2 * 2 by omega]; rw [show j / 2 * 2 / 2 = j / 2 by omega, hp.1, hq.1, hlk]
        · omega
      · rw [if_neg e1] at hq
        rcases hm with hm | hm
        · rw [show j = j / 2 * 2 by omega, hp.1, hq.1]
        · rw [show j = j / 2 * 2 + 1 by omega, hp.2, hq.2]
  · have h1 : (arcCells l)[j]? = none := List.getElem?_eq_none (by rw [arcCells_length]; omega)
    have h2 : (arcCells (l.set i (k, b)))[j]? = none := List.getElem?_eq_none (by rw [arcCells_length, List.length_set]; omega)
    rw [h1, h2, if_neg (by omega)]
theorem ArcRow.set {w : World} {g cap n i k b' : Nat} {l : List Arc} (h : ArcRow w (.slice (some ⟨g, 0, none⟩) n cap) l) (hi : l[i]? = some (k, b')) (b : Nat) :
    ArcRow (w.setCell ⟨g, i * 2 + 1, none⟩ (.float .f64 b)) (.slice (some ⟨g, 0, none⟩) n cap) (l.set i (k, b)) := by
  obtain ⟨hx, ho⟩ := h
  have hil : i < l.length := (List.getElem?_eq_some_iff.1 hi).1
  rcases ho with ⟨hv, _⟩ | ⟨g', cap', cur, hv, _, hh, h1, h2, h3, h4⟩
  · cases hv
  simp only [Value.slice.injEq, Option.some.injEq, Addr.mk.injEq] at hv
  obtain ⟨⟨rfl, -, -⟩, rfl, rfl⟩ := hv
  refine ⟨arcCells_length _, .inr ⟨g, cap, cur.setIfInBounds (i * 2 + 1) (.float .f64 b), by rw [List.length_set], Nat.zero_le _, heapV_setCell hh _ _, by rw [List.length_set]; exact h1, h2, by simpa using h3, ?_⟩⟩
  rw [Array.toList_setIfInBounds, List.length_set, List.take_set, h4, arcCells_set l i k b b' hi]
def SetPost (w : World) (v : Value) (l : List Arc) (k : Nat) (e : Ending) (w' : World) : Prop :=
  ∃ v' l', e = .returned v' ∧ ArcRow w' v' l' ∧ Asc l' ∧ l'.length ≤ l.length + 1 ∧ (∀ x, x ∈ l'.map (·.1) ↔ x = k ∨ x ∈ l.map (·.1)) ∧
    Keep (fun g => v.ownBlock = some g) w w' ∧ (v'.ownBlock = v.ownBlock ∨ ∃ g, v'.ownBlock = some g ∧ w.heap.size ≤ g)
theorem asc_insert {l : List Arc} {k i b : Nat} (hs : Asc l) (hf : FoundAt l k i false) : Asc (l.take i ++ (k, b) :: l.drop i) := by
  obtain ⟨h1, h2, h3, h4⟩ := hf
  have hne : ∀ j p, i ≤ j → l[j]? = some p → k < p.1 := by
    intro j p hj hp
    have := h3 j p hj hp
    rcases Nat.lt_or_ge k p.1 with h | h
    · exact h
    · exfalso
      have he : p.1 = k := by omega
      rcases Nat.eq_or_lt_of_le hj with rfl | hlt
      · rw [hp] at h4; simp [he] at h4
      · have hjl := (List.getElem?_eq_some_iff.1 hp).1
        have hil : i < l.length := by omega
        have hq : l[i]? = some l[i] := List.getElem?_eq_getElem hil
        have := h3 i _ (Nat.le_refl _) hq
        have hlt' := List.pairwise_iff_getElem.1 hs i j hil hjl hlt
        rw [List.getElem?_eq_getElem hjl] at hp
        cases hp
        omega
  unfold Asc
  rw [List.pairwise_append, List.pairwise_cons]
  refine ⟨List.Pairwise.sublist (List.take_sublist _ _) hs, ⟨fun p hp => ?_, List.Pairwise.sublist (List.drop_sublist _ _) hs⟩, fun p hp q hq => ?_⟩
  · obtain ⟨j, hj⟩ := List.mem_iff_getElem?.1 hp
    rw [List.getElem?_drop] at hj
    exact hne _ _ (by omega) hj
  · obtain ⟨j, hj⟩ := List.mem_iff_getElem?.1 hp
    rw [List.getElem?_take] at hj
    split at hj
    · have hjk := h2 j p ‹_› hj
      rcases List.mem_cons.1 hq with rfl | hq
      · exact hjk
      · obtain ⟨m, hm⟩ := List.mem_iff_getElem?.1 hq
        rw [List.getElem?_drop] at hm
        have := hne _ _ (by omega) hm
        omega
    · cases hj
theorem mem_insert (l : List Arc) (k i b x : Nat) : x ∈ (l.take i ++ (k, b) :: l.drop i).map (·.1) ↔ x = k ∨ x ∈ l.map (·.1) := by
  conv => rhs; rw [← List.take_append_drop i l]
  simp only [List.map_append, List.map_cons, List.mem_append, List.mem_cons]
  constructor
  · rintro (h | h | h)
    · exact .inr (.inl h)
    · exact .inl h
    · exact .inr (.inr h)
  · rintro (h | h | h)
    · exact .inr (.inl h)
    · exact .inl h
    · exact .inr (.inr h)
theorem asc_set {l : List Arc} {i k b b' : Nat} (hs : Asc l) (hi : l[i]? = some (k, b')) : Asc (l.set i (k, b)) ∧ (l.set i (k, b)).map (·.1) = l.map (·.1) := by
  have hm : (l.set i (k, b)).map (·.1) = l.map (·.1) := by
    rw [List.map_set]
    apply List.ext_getElem?
    intro j
    rw [List.getElem?_set]
    split
    · rename_i e; subst e
      rw [List.getElem?_map, hi]
      have := (List.getElem?_eq_some_iff.1 hi).1
      simp [this]
    · rfl
  refine ⟨?_, hm⟩
  have h1 : (l.map (·.1)).Pairwise (· < ·) := List.pairwise_map.2 hs
  rw [← hm] at h1
  exact List.pairwise_map.1 h1
set_option maxRecDepth 20000 in
theorem bsfArc_nil (fn : FuncId) (hf : fn = 169 ∨ fn = 169) (w : World) (k : Nat) :
    Calls Tryz.prog 168 #[.slice none 0 0, .int .i64 (k : Int), .func (.func fn) #[] #[]] w fun e w' => e = .returned (.tuple #[.int .i64 0, .bool false]) ∧ Keep (fun _ => False) w w' := by
  rcases hf with rfl | rfl
  all_goals
    go_enter Tryz.func168, Tryz.ntmps168
    go_wp2_with fail
    go_loopw [9, 10, 11] (fun i j _ wr => i = .int .i64 0 ∧ j = .int .i64 0 ∧ Keep (fun _ => False) w wr) (fun i j _ _ => ((intOf j).toNat - (intOf i).toNat))
    case atStart => exact ⟨rfl, rfl, Keep.refl _ _⟩
    case round =>
      obtain ⟨rfl, rfl, hk⟩ := hrel
      have HK := Lib.hid hk
      clear hk
      go_wp2_with fail
      go_ret2
      exact ⟨rfl, HK.out⟩
theorem bsf_spec (fn : FuncId) (hf : fn = 169 ∨ fn = 169) {w : World} {v : Value} {l : List Arc} (h : ArcRow w v l) (hs : Asc l) (k : Nat)
    (hk : k ≤ 4611686018427387904) (hl : ∀ p ∈ l, p.1 ≤ 4611686018427387904) (hlen : l.length ≤ 1073741824) :
    Calls Tryz.prog 168 #[v, .int .i64 (k : Int), .func (.func fn) #[] #[]] w fun e w' =>
      ∃ i b, FoundAt l k i b ∧ e = .returned (.tuple #[.int .i64 (i : Int), .bool b]) ∧ Keep (fun _ => False) w w' := by
  rcases h.form with ⟨rfl, rfl⟩ | ⟨g, cap, rfl, hg, hc1, hc2⟩
  · exact (bsfArc_nil fn hf w k).mono fun e w' hh => ⟨0, false, FoundAt.mk' (Nat.le_refl _) (fun j p hj => absurd hj (Nat.not_lt_zero _)) (fun j p _ hp => by cases hp) rfl, hh.1, hh.2⟩
  · exact bsfArc_spec fn hf h hs k hk hl hlen
set_option maxRecDepth 20000 in
theorem set_spec {w : World} {v : Value} {l : List Arc} (h : ArcRow w v l) (hs : Asc l) (k b : Nat) (hk : k ≤ 1000000) (hl : ∀ p ∈ l, p.1 ≤ 1000000) (hlen : l.length ≤ 1000000) (hvb : ∀ g, v.ownBlock = some g → g < w.heap.size) :
    Calls Tryz.prog 121 #[v, .int .i64 (k : Int), .float .f64 b] w (SetPost w v l k) := by
  have hbs := bsf_spec 169 (.inl rfl) h hs k (by omega) (fun p hp => Nat.le_trans (hl p hp) (by omega)) (by omega)
  have HBS := Lib.hid hbs
  -- found: the weight is stored
  have hst : ∀ w1 i, FoundAt l k i true → Keep (fun _ => False) w w1 → ∃ g cap, v = .slice (some ⟨g, 0, none⟩) l.length cap ∧ i < l.length ∧ (store ⟨g, i * 2 + 1, none⟩ (.float .f64 b)).run Tryz.prog w1 = .ok () (w1.setCell ⟨g, i * 2 + 1, none⟩ (.float .f64 b)) ∧
      (SetPost w v l k (.returned v) (w1.setCell ⟨g, i * 2 + 1, none⟩ (.float .f64 b))) := by
    intro w1 i hf hk1
    obtain ⟨f1, f2, f3, f4⟩ := hf
    have hil : ∃ p, l[i]? = some p ∧ p.1 = k := by
      cases hq : l[i]? with
      | none => rw [hq] at f4; cases f4
      | some p => rw [hq] at f4; simp at f4; exact ⟨p, rfl, f4⟩
    obtain ⟨⟨p1, b'⟩, hp, rfl⟩ := hil
    have hi := (List.getElem?_eq_some_iff.1 hp).1
    rcases h.form with ⟨rfl, rfl⟩ | ⟨g, cap, rfl, hg, hc1, hc2⟩
    · cases hp
    have h1 := h.keep hk1 (fun _ _ h => h)
    have hc := h1.cell hp
    have ha := asc_set (b := b) hs hp
    refine ⟨g, cap, rfl, hi, by rw [run_store _ _ _ _ _ rfl, hc.2.1, hc.2.2.1]; rfl, _, _, rfl, ArcRow.set h1 hp b, ha.1, by rw [List.length_set]; omega, fun x => ?_, ?_, .inl rfl⟩
    · rw [ha.2]
      constructor
      · exact .inr
      · rintro (rfl | h)
        · exact List.mem_map.2 ⟨_, List.mem_of_getElem? hp, rfl⟩
        · exact h
    · exact (hk1.mono (fun _ _ h => h.elim)).setCell _ (fun _ => rfl)
  have hins : ∀ w1 i vb, FoundAt l k i false → Keep (fun _ => False) w w1 → vb = w1.heap.size → ∀ w2, w2 = w1.alloc (.cells #[.int .i64 (k : Int), .float .f64 b] 257 (0, 0)) →
      Calls Tryz.prog 170 #[v, .int .i64 (i : Int), .slice (some ⟨vb, 0, none⟩) 1 1] w2 (SetPost w v l k) := by
    intro w1 i vb hf hk1 hvb' w2 hw2
    have hk2 : Keep (fun _ => False) w w2 := by rw [hw2]; exact hk1.alloc _
    have h2 := h.keep hk2 (fun _ _ h => h)
    have hne : v.ownBlock ≠ some vb := fun e => by have := hvb vb e; have := hk1.size; omega
    refine (ins_spec h2 hf.1 k b vb (by rw [hw2, hvb']; exact heap_new _ _) hne hlen).mono ?_
    rintro e w' ⟨v', rfl, g1, g2, g3, g4⟩
    refine ⟨v', _, rfl, g1, asc_insert hs hf, by simp; have := hf.1; omega, mem_insert l k i b, (hk2.mono (fun _ _ h => h.elim)).trans g2 (fun _ _ h => h), ?_⟩
    rcases g3 with g3 | ⟨g, g3, g5⟩
    · exact .inl g3
    · exact .inr ⟨g, g3, by have := hk2.size; omega⟩
  have HST := Lib.hid hst
  have HINS := Lib.hid hins
  clear hst hins hbs h hs hl hlen hvb hk
  go_enter Tryz.func121, Tryz.ntmps121
  go_wp2_with (first
    | ((with_reducible refine (HBS.out).mono ?_); rintro e w1 ⟨i, b1, hf, rfl, hk1⟩; rcases b1 with _ | _; rotate_left; obtain ⟨g, cap, rfl, hi, hsf, hfin⟩ := HST.out _ _ hf hk1; rotate_left)
    | ((with_reducible refine (HINS.out _ _ _ ‹_› ‹_› (by rfl) _ (by rfl)).mono ?_); rintro e w2 ⟨v', l', rfl, hfin⟩))
  · go_ret; exact ⟨v', l', rfl, hfin⟩
  · go_ret; exact hfin
end Go.Proofs.YtdaccgelmcmfjaaGreatDoor
end
/- Rows that are read; slices.BinarySearch at []int64. -/
section
namespace Go.Proofs.YtdaccgelmcmfjaaGreatDoor
open Go.RowKit Go.V
def Row (B : Nat) (w : World) (v : Value) (us : List Value) : Prop :=
  (v = .slice none 0 0 ∧ us = []) ∨ ∃ b off cap, v = .slice (some ⟨b, off, none⟩) us.length cap ∧ b < B ∧ Cells w b off us ∧ us.length ≤ cap ∧ cap ≤ maxLen
theorem Row.keep {B : Nat} {w w' : World} {v : Value} {us : List Value} {S : Nat → Prop} (h : Row B w v us) (hk : Keep S w w') (hn : ∀ k, S k → B ≤ k) : Row B w' v us := by
  rcases h with h | ⟨b, off, cap, rfl, h1, h2, h3⟩
  · exact .inl h
  · exact .inr ⟨b, off, cap, rfl, h1, h2.keep hk (fun h => by have := hn _ h; omega), h3⟩
theorem Row.mono {B B' : Nat} {w : World} {v : Value} {us : List Value} (h : Row B w v us) (hB : B ≤ B') : Row B' w v us := by
  rcases h with h | ⟨b, off, cap, rfl, h1, h2, h3⟩
  · exact .inl h
  · exact .inr ⟨b, off, cap, rfl, by omega, h2, h3⟩
theorem Row.drewN {B : Nat} {w : World} {v : Value} {us : List Value} (h : Row B w v us) (n : Nat) : Row B (w.drewN n) v us :=
  h.keep ((Keep.refl (fun _ => False) w).drewN n) (fun _ h => h.elim)
def ints (xs : List Int) : List Value := xs.map (.int .i64)
theorem ints_length (xs : List Int) : (ints xs).length = xs.length := List.length_map _
theorem ints_get {xs : List Int} {j : Nat} {x : Int} (h : xs[j]? = some x) : (ints xs)[j]? = some (.int .i64 x) := by simp [ints, h]
set_option maxRecDepth 20000 in
theorem cnan64_spec (x : Int) (w : World) : Calls Tryz.prog 174 #[.int .i64 x] w fun e w' => e = .returned (.bool false) ∧ w' = w := by
  go_enter Tryz.func174, Tryz.ntmps174
  go_wp2
  go_ret
  exact ⟨by simp, rfl⟩
set_option maxRecDepth 20000 in
theorem snan64_spec (x : Int) (w : World) : Calls Tryz.prog 167 #[.int .i64 x] w fun e w' => e = .returned (.bool false) ∧ w' = w := by
  go_enter Tryz.func167, Tryz.ntmps167
  go_wp2
  go_ret
  exact ⟨by simp, rfl⟩
set_option maxRecDepth 20000 in
theorem less64_spec (x y : Int) (w : World) : Calls Tryz.prog 164 #[.int .i64 x, .int .i64 y] w fun e w' => e = .returned (.bool (decide (x < y))) ∧ w' = w := by
  go_enter Tryz.func164, Tryz.ntmps164
  go_wp2_with (refine (cnan64_spec _ _).mono ?_; rintro e w' ⟨rfl, rfl⟩)
  go_ret
  exact ⟨rfl, rfl⟩
set_option maxRecDepth 20000 in
theorem bs64_spec {B : Nat} {w : World} {v : Value} {xs : List Int} (h : Row B w v (ints xs)) (hs : xs.Pairwise (· < ·)) (k : Int) (hlen : xs.length ≤ 1073741824) :
    Calls Tryz.prog 120 #[v, .int .i64 k] w fun e w' => ∃ (i : Nat) (b : Bool), e = .returned (.tuple #[.int .i64 (i : Int), .bool b]) ∧ i ≤ xs.length ∧ (b = true → xs[i]? = some k) ∧ (b = false → k ∉ xs) ∧ ∃ n, w' = w.drewN n := by
  rcases h with ⟨rfl, hu⟩ | ⟨g, off, cap, rfl, hB, hc, h1, h2⟩
  · have : xs = [] := by simpa [ints] using hu
    subst this
    go_enter Tryz.func120, Tryz.ntmps120
    go_wp2_with fail
    go_loopw [7, 8, 9] (fun i j _ wr => i = .int .i64 0 ∧ j = .int .i64 0 ∧ ∃ q, wr = w.drewN q) (fun i j _ _ => ((intOf j).toNat - (intOf i).toNat))
    case atStart => exact ⟨rfl, rfl, 0, rfl⟩
    case round =>
      obtain ⟨rfl, rfl, q, rfl⟩ := hrel
      go_wp2_with fail
      go_ret2
      exact ⟨0, false, rfl, Nat.le_refl _, by simp, by simp, q, rfl⟩
  · rw [ints_length] at h1 ⊢
    have hasc : ∀ (i j : Nat) (p q : Int), i < j → xs[i]? = some p → xs[j]? = some q → p < q := fun i j p q hij hp hq => by
      obtain ⟨h1, rfl⟩ := List.getElem?_eq_some_iff.1 hp
      obtain ⟨h2, rfl⟩ := List.getElem?_eq_some_iff.1 hq
      exact List.pairwise_iff_getElem.1 hs i j h1 h2 hij
    have hsome : ∀ j, j < xs.length → ∃ p, xs[j]? = some p ∧ w.cell? ⟨g, off + j, none⟩ = some (.int .i64 p) := fun j hj => ⟨_, List.getElem?_eq_getElem hj, hc j _ (ints_get (List.getElem?_eq_getElem hj))⟩
    have hfin : ∀ (i : Nat) (b : Bool) (q : Nat), i ≤ xs.length → (∀ t p, t < i → xs[t]? = some p → p < k) → (∀ t p, i ≤ t → xs[t]? = some p → k ≤ p) → (b = true ↔ xs[i]? = some k) →
        ∃ (i' : Nat) (b' : Bool), Ending.returned (.tuple #[.int .i64 (i : Int), .bool b]) = Ending.returned (.tuple #[.int .i64 (i' : Int), .bool b']) ∧ i' ≤ xs.length ∧ (b' = true → xs[i']? = some k) ∧ (b' = false → k ∉ xs) ∧ ∃ n, w.drewN q = w.drewN n := by
      intro i b q h1 h2 h3 h4
      refine ⟨i, b, rfl, h1, h4.1, fun hb hk => ?_, q, rfl⟩
      obtain ⟨j, hj⟩ := List.mem_iff_getElem?.1 hk
      rcases Nat.lt_trichotomy j i with h | h | h
      · have := h2 j k h hj; omega
      · subst h; rw [h4.2 hj] at hb; cases hb
      · have hjl := (List.getElem?_eq_some_iff.1 hj).1
        have hil : i < xs.length := by omega
        have a := hasc i j _ _ h (List.getElem?_eq_getElem hil) hj
        have b := h3 i _ (Nat.le_refl _) (List.getElem?_eq_getElem hil)
        omega
    have hnil : ∀ j, xs.length ≤ j → xs[j]? = none := fun j hj => List.getElem?_eq_none hj
    generalize hn : xs.length = n at *
    have HN := Lib.hid hn
    have HS := Lib.hid hsome
    have HA := Lib.hid hasc
    have HF := Lib.hid hfin
    have HNil := Lib.hid hnil
    clear hn hsome hasc hfin hnil hs hc
    go_enter Tryz.func120, Tryz.ntmps120
    go_wp2_with fail
    go_loopw [7, 8, 9] (fun i j _ wr => ∃ a b q : Nat, i = .int .i64 a ∧ j = .int .i64 b ∧ a ≤ b ∧ b ≤ n ∧ (∀ t p, t < a → xs[t]? = some p → p < k) ∧ (∀ t p, b ≤ t → xs[t]? = some p → k ≤ p) ∧ wr = w.drewN q)
      (fun i j _ _ => ((intOf j).toNat - (intOf i).toNat))
    case atStart => exact ⟨0, n, 0, rfl, rfl, by omega, by omega, fun t p h _ => absurd h (Nat.not_lt_zero _), fun t p h hp => (by rw [HNil.out t h] at hp; cases hp), rfl⟩
    case round =>
      obtain ⟨a, b, q, rfl, rfl, h1, h2, h3, h4, rfl⟩ := hrel
      have H3 := Lib.hid h3
      have H4 := Lib.hid h4
      clear h3 h4
      by_cases hlt : a < b
      · obtain ⟨p, hp, c0⟩ := HS.out ((a + b) / 2) (by omega)
        have HP := Lib.hid hp
        clear hp
        by_cases hpk : p < k
        · have d1 : decide (p < k) = true := by simpa using hpk
          go_wp2_with (first | ((with_reducible refine (less64_spec _ _ _).mono ?_); rintro e w1 ⟨rfl, rfl⟩))
          go_roundw
          case rel => exact ⟨(a + b) / 2 + 1, b, q, by go_num, rfl, by omega, h2, fun t r ht hr => (by
            rcases Nat.lt_or_ge t ((a + b) / 2) with h | h
            · exact Int.lt_trans (HA.out t _ r p h hr HP.out) hpk
            · obtain rfl : t = (a + b) / 2 := by omega
              rw [HP.out] at hr; cases hr; exact hpk), H4.out, rfl⟩
          case measure => simp [intOf]; omega
        · have d1 : decide (p < k) = false := by simpa using hpk
          go_wp2_with (first | ((with_reducible refine (less64_spec _ _ _).mono ?_); rintro e w1 ⟨rfl, rfl⟩))
          go_roundw
          case rel => exact ⟨a, (a + b) / 2, q, rfl, by go_num, by omega, by omega, H3.out, fun t r ht hr => (by
            rcases Nat.lt_or_ge ((a + b) / 2) t with h | h
            · have := HA.out _ t p r h HP.out hr; omega
            · obtain rfl : t = (a + b) / 2 := by omega
              rw [HP.out] at hr; cases hr; omega), rfl⟩
          case measure => simp [intOf]; omega
      · obtain rfl : a = b := by omega
        by_cases hend : a < n
        · obtain ⟨p, hp, c0⟩ := HS.out a hend
          have HP := Lib.hid hp
          clear hp
          have hb : ((p == k) = true ↔ xs[a]? = some k) := by rw [HP.out]; simp
          have HBB := Lib.hid hb
          clear hb
          by_cases hpk : p = k
          · subst hpk
            have d1 : (p == p) = true := by simp
            go_wp2_with (first | ((with_reducible refine (snan64_spec _ _).mono ?_); rintro e w1 ⟨rfl, rfl⟩))
            go_ret2
            exact HF.out a _ q (by omega) H3.out H4.out (by simpa using HP.out)
          · have d1 : (p == k) = false := by simpa using hpk
            go_wp2_with (first | ((with_reducible refine (snan64_spec _ _).mono ?_); rintro e w1 ⟨rfl, rfl⟩))
            go_ret2
            exact HF.out a _ q (by omega) H3.out H4.out (by rw [HP.out]; simpa using hpk)
        · go_wp2_with fail
          go_ret2
          exact HF.out a _ q (by omega) H3.out H4.out (by rw [HNil.out a (by omega)]; simp)
end Go.Proofs.YtdaccgelmcmfjaaGreatDoor
end
