/- Leaves: the nodes' numbers, the iterators over lists of nodes. -/
import Derived.Test.YtdaccgelmcmfjaaGreatDoorProg
import Derived.Test.YtdaccgelmcmfjaaGreatDoorJV0
set_option linter.all false
section
namespace Go.Proofs.YtdaccgelmcmfjaaGreatDoor
open Go.RowKit Go.V
abbrev nodeV (n : Int) : Value := .iface 349 (.int .i64 n)
def Cells (w : World) (b off : Nat) (xs : List Value) : Prop := ∀ j u, xs[j]? = some u → w.cell? ⟨b, off + j, none⟩ = some u
theorem Cells.keep {w w' : World} {b off : Nat} {xs : List Value} {S : Nat → Prop} (h : Cells w b off xs) (hk : Keep S w w') (hn : ¬ S b) : Cells w' b off xs := by
  intro j u hu
  have := h j u hu
  rw [hk.cell (a := ⟨b, off + j, none⟩) (World.block_lt_of_cell? _ _ this) hn]; exact this
theorem Cells.get {w : World} {b off : Nat} {xs : List Value} (h : Cells w b off xs) {j : Nat} (hj : j < xs.length) : w.cell? ⟨b, off + j, none⟩ = some xs[j] := h j _ (List.getElem?_eq_getElem hj)
theorem Cells.of_heap {w : World} {b : Nat} {cs : Array Value} {t : TypeId} {fr : Nat × Nat} (h : w.heap[b]? = some (.cells cs t fr)) : Cells w b 0 cs.toList := by
  intro j u hu; rw [Nat.zero_add, cell_of h]; simpa using hu
def Free (w : World) (g : Nat) : Prop := g < w.heap.size ∧ ∀ i, w.frozen? ⟨g, i, none⟩ = false
theorem Free.keep {w w' : World} {g : Nat} {S : Nat → Prop} (h : Free w g) (hk : Keep S w w') (hn : ¬ S g) : Free w' g :=
  ⟨Nat.lt_of_lt_of_le h.1 hk.size, fun i => by rw [hk.frozen (a := ⟨g, i, none⟩) h.1 hn]; exact h.2 i⟩
def Iter (w : World) (it g : Nat) (xs : List Value) (k : Nat) : Prop :=
  ∃ off cap, w.heap[it]? = some (.cells #[.int .i64 ((k : Int) - 1), .slice (some ⟨g, off, none⟩) xs.length cap] 303 (0, 0)) ∧ Cells w g off xs ∧ g ≠ it ∧ xs.length ≤ cap ∧ cap ≤ maxLen ∧ Free w g
theorem Iter.lt {w : World} {it g : Nat} {xs : List Value} {k : Nat} (h : Iter w it g xs k) : it < w.heap.size := by
  obtain ⟨off, cap, h, _⟩ := h; exact lt_of_get h
theorem Iter.lt' {w : World} {it g : Nat} {xs : List Value} {k : Nat} (h : Iter w it g xs k) : g < w.heap.size := by
  obtain ⟨off, cap, _, _, _, _, _, h⟩ := h; exact h.1
theorem Iter.keep {w w' : World} {it g : Nat} {xs : List Value} {k : Nat} {S : Nat → Prop} (h : Iter w it g xs k) (hk : Keep S w w') (h1 : ¬ S it) (h2 : ¬ S g) : Iter w' it g xs k := by
  obtain ⟨off, cap, a1, a2, a3, a4, a5, a6⟩ := h
  exact ⟨off, cap, hk.get a1 h1, a2.keep hk h2, a3, a4, a5, a6.keep hk h2⟩
set_option maxRecDepth 20000 in
theorem Next_spec {w : World} {it g : Nat} {xs : List Value} {k : Nat} (h : Iter w it g xs k) (hk : k ≤ xs.length) :
    Calls Tryz.prog 283 #[.pointer (some ⟨it, 0, none⟩)] w fun e w' => e = .returned (.bool (decide (k < xs.length))) ∧ Iter w' it g xs (k + 1) ∧ Keep (fun b => b = it) w w' ∧ w'.heap.size = w.heap.size := by
  obtain ⟨off, cap, hh, hc, hne, hl, hm, hg⟩ := h
  have hfin : ∀ W : World, W.heap = (w.setCell ⟨it, 0, none⟩ (.int .i64 (k : Int))).heap → W.os = w.os → W.tape = w.tape → W.output = w.output →
      Iter W it g xs (k + 1) ∧ Keep (fun b => b = it) w W ∧ W.heap.size = w.heap.size := by
    intro W e1 e2 e3 e4
    have hK : Keep (fun b => b = it) w W := by
      have := (Keep.refl (fun b => b = it) w).setCell (a := ⟨it, 0, none⟩) (.int .i64 (k : Int)) (fun _ => rfl)
      exact ⟨e2, e3, e4, by rw [e1]; exact this.size, fun b hb hn => by rw [e1]; exact this.block b hb hn⟩
    refine ⟨⟨off, cap, ?_, hc.keep hK hne, hne, hl, hm, hg.keep hK hne⟩, hK, by rw [e1]; simp⟩
    rw [e1, heapV_setCell hh]
    simp
  generalize hn : xs.length = n at *
  have HN := Lib.hid hn; clear hn
  have hm' := hm; unfold maxLen at hm'
  have c0 := cell_of hh 0
  have c1 := cell_of hh 1
  have f0 := free_of hh 0
  simp only [List.getElem?_toArray, List.getElem?_cons_zero, List.getElem?_cons_succ] at c0 c1
  have hw : IntKind.u64.wrap (IntKind.u64.wrap ((k : Int) - 1) + 1) = (k : Int) := by
    simp [IntKind.wrap, IntKind.signed, IntKind.bits]; omega
  clear hh hc
  have HF := Lib.hid hfin; clear hfin
  by_cases hlt : k < n
  · rw [show decide (k < n) = true by simpa using hlt]
    go_enter Tryz.func283, Tryz.ntmps283
    go_wp2
    go_quiet (fail)
    go_wp2
    go_ret
    exact ⟨rfl, HF.out _ rfl rfl rfl rfl⟩
  · rw [show decide (k < n) = false by simpa using hlt]
    obtain rfl : k = n := by omega
    go_enter Tryz.func283, Tryz.ntmps283
    go_wp2
    go_quiet (fail)
    go_wp2
    go_ret
    exact ⟨rfl, HF.out _ rfl rfl rfl rfl⟩
set_option maxRecDepth 20000 in
theorem Node_spec {w : World} {it g : Nat} {xs : List Value} {k : Nat} (h : Iter w it g xs (k + 1)) {v : Value} (hv : xs[k]? = some v) :
    Calls Tryz.prog 284 #[.pointer (some ⟨it, 0, none⟩)] w fun e w' => e = .returned v ∧ ∃ n, w' = w.drewN n := by
  obtain ⟨off, cap, hh, hc, hne, hl, hm, hg⟩ := h
  have hk : k < xs.length := by
    rcases Nat.lt_or_ge k xs.length with h | h
    · exact h
    · rw [List.getElem?_eq_none h] at hv; cases hv
  generalize hn : xs.length = n at *
  have hm' := hm; unfold maxLen at hm'
  have c0 := cell_of hh 0
  have c1 := cell_of hh 1
  have c2 := hc k v hv
  simp only [List.getElem?_toArray, List.getElem?_cons_zero, List.getElem?_cons_succ] at c0 c1
  rw [show ((k + 1 : Nat) : Int) - 1 = (k : Int) by omega] at c0
  have d1 : decide ((n : Int) ≤ (k : Int)) = false := by simp; omega
  have d2 : decide ((k : Int) < 0) = false := by simp
  have e1 : (0 : Int) ≤ (k : Int) := by omega
  have e2 : (k : Int) < (n : Int) := by omega
  clear hh hc hn hv
  go_enter Tryz.func284, Tryz.ntmps284
  go_wp2
  go_quiet (fail)
  go_wp2
  go_quiet (fail)
  go_wp2
  go_ret
  exact ⟨rfl, _, World.drewN_drewN ..⟩
set_option maxRecDepth 20000 in
theorem Len_spec {w : World} {it g : Nat} {xs : List Value} {k : Nat} (h : Iter w it g xs k) (hk : k ≤ xs.length) :
    Calls Tryz.prog 282 #[.pointer (some ⟨it, 0, none⟩)] w fun e w' => e = .returned (.int .i64 ((xs.length - k : Nat) : Int)) ∧ ∃ n, w' = w.drewN n := by
  obtain ⟨off, cap, hh, hc, hne, hl, hm, hg⟩ := h
  generalize hn : xs.length = n at *
  have hm' := hm; unfold maxLen at hm'
  have c0 := cell_of hh 0
  have c1 := cell_of hh 1
  simp only [List.getElem?_toArray, List.getElem?_cons_zero, List.getElem?_cons_succ] at c0 c1
  have d1 : decide ((n : Int) ≤ (k : Int) - 1) = false := by simp; omega
  have e1 : (0 : Int) ≤ (k : Int) := by omega
  have e2 : (k : Int) ≤ (n : Int) := by omega
  have e3 : (n : Int) ≤ (cap : Int) := by omega
  clear hh hc hn
  go_enter Tryz.func282, Tryz.ntmps282
  go_wp2
  go_quiet (fail)
  go_wp2
  go_quiet (fail)
  go_wp2
  all_goals (go_ret; exact ⟨rfl, _, rfl⟩)
/-! ### Sets -/
def SetAt (w : World) (m : Nat) (ks : List Int) : Prop := MapAt w m (ks.map fun k => (k, Value.agg #[]))
def sadd (ks : List Int) (k : Int) : List Int := if ks.contains k then ks else ks ++ [k]
def sdel (ks : List Int) (k : Int) : List Int := ks.filter (fun x => !(x == k))
theorem kget_set (ks : List Int) (k : Int) : kget (ks.map fun k => (k, Value.agg #[])) k = if ks.contains k then some (.agg #[]) else none := by
  unfold kget
  induction ks with
  | nil => rfl
  | cons x ks ih =>
    rw [List.map_cons, List.find?_cons]
    by_cases h : x = k
    · subst h; simp
    · have h1 : (x == k) = false := by simpa using h
      have h2 : (k == x) = false := by simpa using fun e => h e.symm
      simp only [h1, List.contains_cons, h2, Bool.false_or]
      exact ih
theorem kput_set (ks : List Int) (k : Int) : kput (ks.map fun k => (k, Value.agg #[])) k (.agg #[]) = (sadd ks k).map fun k => (k, Value.agg #[]) := by
  unfold kput sadd
  have e : (ks.map fun k => (k, Value.agg #[])).any (fun p => p.1 == k) = ks.contains k := by
    rw [List.any_map]
    induction ks with
    | nil => rfl
    | cons x ks ih =>
      rw [List.any_cons, List.contains_cons, ← ih]
      congr 1
      show (x == k) = (k == x)
      exact BEq.comm
  rw [e]
  by_cases hc : ks.contains k = true
  · rw [if_pos hc, if_pos hc, List.map_map]
    apply List.map_congr_left
    intro x _
    show (if x == k then (k, Value.agg #[]) else (x, Value.agg #[])) = (x, Value.agg #[])
    split
    · rename_i h; have : x = k := by simpa using h
      rw [this]
    · rfl
  · rw [if_neg hc, if_neg hc]; simp
theorem kdel_set (ks : List Int) (k : Int) : kdel (ks.map fun k => (k, Value.agg #[])) k = (sdel ks k).map fun k => (k, Value.agg #[]) := by
  unfold kdel sdel
  rw [List.filter_map]
  rfl
theorem SetAt.made (w : World) : SetAt (w.alloc (.map #[] 0)) w.heap.size [] := MapAt.made w
theorem SetAt.keep {w w' : World} {m : Nat} {ks : List Int} {S : Nat → Prop} (h : SetAt w m ks) (hk : Keep S w w') (hn : ¬ S m) : SetAt w' m ks := MapAt.keep h hk hn
theorem SetAt.lt {w : World} {m : Nat} {ks : List Int} (h : SetAt w m ks) : m < w.heap.size := MapAt.lt h
theorem SetAt.nodup {w : World} {m : Nat} {ks : List Int} (h : SetAt w m ks) : ks.Nodup := by
  have := MapAt.nodup h
  rwa [List.map_map, show ((fun p : Int × Value => p.1) ∘ fun k => (k, Value.agg #[])) = id from rfl, List.map_id] at this
theorem zeroUnit (w : World) : (zeroValue 200).run Tryz.prog w = .ok (.agg #[]) w := by kernel_rfl
theorem storeNone {P : Program} (a : Addr) (w : World) : (storeCells a [] 0).run P w = .ok () w := rfl
theorem HasI_spec {w : World} {m : Nat} {ks : List Int} (h : SetAt w m ks) (k : Int) :
    Calls Tryz.prog 101 #[.map (some m), .int .i64 k] w fun e w' => e = .returned (.bool (ks.contains k)) ∧ Keep (fun _ => False) w w' := by
  have hg := kget_set ks k
  have hs0 := storeNone (P := Tryz.prog)
  cases hb : ks.contains k
  all_goals
    rw [hb] at hg
    clear hb
    have HG := Lib.hid hg
    clear hg
    go_enter Tryz.func101, Tryz.ntmps101
    go_wp2_with (first | (at_lookup; refine wpList_lookup_kv rfl _ _ _ _ rfl 3 200 Tryz.underlying191 Tryz.underlying3 (.agg #[]) zeroUnit m _ k rfl rfl h ?_; rw [HG.out]))
    go_ret
    exact ⟨rfl, (Keep.refl _ _).alloc _⟩
theorem HasL_spec {w : World} {m : Nat} {ks : List Int} (h : SetAt w m ks) (k : Int) :
    Calls Tryz.prog 144 #[.map (some m), .int .i64 k] w fun e w' => e = .returned (.bool (ks.contains k)) ∧ Keep (fun _ => False) w w' := by
  have hg := kget_set ks k
  have hs0 := storeNone (P := Tryz.prog)
  cases hb : ks.contains k
  all_goals
    rw [hb] at hg
    clear hb
    have HG := Lib.hid hg
    clear hg
    go_enter Tryz.func144, Tryz.ntmps144
    go_wp2_with (first | (at_lookup; refine wpList_lookup_kv rfl _ _ _ _ rfl 2 200 Tryz.underlying143 Tryz.underlying2 (.agg #[]) zeroUnit m _ k rfl rfl h ?_; rw [HG.out]))
    go_ret
    exact ⟨rfl, (Keep.refl _ _).alloc _⟩
theorem AddI_spec {w : World} {m : Nat} {ks : List Int} (h : SetAt w m ks) (k : Int) :
    Calls Tryz.prog 102 #[.map (some m), .int .i64 k] w fun e w' => e = .returned (.tuple #[]) ∧ SetAt w' m (sadd ks k) ∧ Keep (fun b => b = m) w w' ∧ w'.heap.size = w.heap.size := by
  go_enter Tryz.func102, Tryz.ntmps102
  go_wp2_with (first | (at_mapUpdate; refine wpList_update_kv rfl _ _ _ _ rfl 3 200 Tryz.underlying191 Tryz.underlying3 m _ k (.agg #[]) rfl rfl rfl h ?_; intro w1 h1 h2 h3))
  go_end0
  exact ⟨rfl, by unfold SetAt; rw [← kput_set]; exact h1, h2, h3⟩
theorem AddL_spec {w : World} {m : Nat} {ks : List Int} (h : SetAt w m ks) (k : Int) :
    Calls Tryz.prog 104 #[.map (some m), .int .i64 k] w fun e w' => e = .returned (.tuple #[]) ∧ SetAt w' m (sadd ks k) ∧ Keep (fun b => b = m) w w' ∧ w'.heap.size = w.heap.size := by
  go_enter Tryz.func104, Tryz.ntmps104
  go_wp2_with (first | (at_mapUpdate; refine wpList_update_kv rfl _ _ _ _ rfl 2 200 Tryz.underlying143 Tryz.underlying2 m _ k (.agg #[]) rfl rfl rfl h ?_; intro w1 h1 h2 h3))
  go_end0
  exact ⟨rfl, by unfold SetAt; rw [← kput_set]; exact h1, h2, h3⟩
theorem RemL_spec {w : World} {m : Nat} {ks : List Int} (h : SetAt w m ks) (k : Int) :
    Calls Tryz.prog 145 #[.map (some m), .int .i64 k] w fun e w' => e = .returned (.tuple #[]) ∧ SetAt w' m (sdel ks k) ∧ (∀ r rest, Rng w r m (ks.map fun k => (k, Value.agg #[])) (rest.map fun k => (k, Value.agg #[])) → Rng w' r m ((sdel ks k).map fun k => (k, Value.agg #[])) ((sdel rest k).map fun k => (k, Value.agg #[]))) ∧ Keep (fun b => b = m) w w' ∧ w'.heap.size = w.heap.size := by
  go_enter Tryz.func145, Tryz.ntmps145
  go_wp2_with (first | (at_delete; refine wpList_delete_kv rfl _ _ _ _ rfl 2 200 Tryz.underlying143 Tryz.underlying2 m _ k rfl rfl h ?_; intro w1 h1 h4 h2 h3))
  go_end0
  exact ⟨rfl, by unfold SetAt; rw [← kdel_set]; exact h1, fun r rest hr => by rw [← kdel_set, ← kdel_set]; exact h4 _ _ hr, h2, h3⟩
theorem CountI_spec {w : World} {m : Nat} {ks : List Int} (h : SetAt w m ks) :
    Calls Tryz.prog 103 #[.map (some m)] w fun e w' => e = .returned (.int .i64 ks.length) ∧ w' = w := by
  go_enter Tryz.func103, Tryz.ntmps103
  go_wp2_with (first | (at_len; refine wpList_len_kv rfl _ _ rfl 3 200 Tryz.underlying191 m _ rfl h ?_; rw [List.length_map]))
  go_ret
  exact ⟨rfl, rfl⟩
theorem CountL_spec {w : World} {m : Nat} {ks : List Int} (h : SetAt w m ks) :
    Calls Tryz.prog 143 #[.map (some m)] w fun e w' => e = .returned (.int .i64 ks.length) ∧ w' = w := by
  go_enter Tryz.func143, Tryz.ntmps143
  go_wp2_with (first | (at_len; refine wpList_len_kv rfl _ _ rfl 2 200 Tryz.underlying143 m _ rfl h ?_; rw [List.length_map]))
  go_ret
  exact ⟨rfl, rfl⟩
end Go.Proofs.YtdaccgelmcmfjaaGreatDoor
end
/- Rows of arcs: the search for an arc in a sorted row. -/
section
namespace Go.Proofs.YtdaccgelmcmfjaaGreatDoor
open Go.RowKit Go.V
abbrev Arc := Nat × Nat
def arcCells (l : List Arc) : List Value := l.flatMap fun p => [.int .i64 (p.1 : Int), .float .f64 p.2]
theorem arcCells_length (l : List Arc) : (arcCells l).length = l.length * 2 := by
  induction l with
  | nil => rfl
  | cons p l ih => simp only [arcCells, List.flatMap_cons, List.length_append, List.length_cons, List.length_nil] at *; omega
theorem arcCells_append (l m : List Arc) : arcCells (l ++ m) = arcCells l ++ arcCells m := by simp [arcCells]
theorem arcCells_get (l : List Arc) (j : Nat) (p : Arc) (h : l[j]? = some p) : (arcCells l)[j * 2]? = some (.int .i64 (p.1 : Int)) ∧ (arcCells l)[j * 2 + 1]? = some (.float .f64 p.2) := by
  induction l generalizing j with
  | nil => simp at h
  | cons q l ih =>
    cases j with
    | zero => simp only [List.getElem?_cons_zero, Option.some.injEq] at h; subst h; exact ⟨rfl, rfl⟩
    | succ j =>
      have := ih j (by simpa using h)
      have e : arcCells (q :: l) = .int .i64 (q.1 : Int) :: .float .f64 q.2 :: arcCells l := rfl
      rw [e, show (j + 1) * 2 = j * 2 + 1 + 1 by omega]
      simpa using this
def ArcRow (w : World) (v : Value) (l : List Arc) : Prop := w.ownsRow 0 257 2 v l.length (arcCells l)
def Asc (l : List Arc) : Prop := l.Pairwise fun a b => a.1 < b.1
theorem ArcRow.cell {w : World} {g cap n : Nat} {l : List Arc} (h : ArcRow w (.slice (some ⟨g, 0, none⟩) n cap) l) {j : Nat} {p : Arc} (hj : l[j]? = some p) :
    w.cell? ⟨g, j * 2, none⟩ = some (.int .i64 (p.1 : Int)) ∧ w.cell? ⟨g, j * 2 + 1, none⟩ = some (.float .f64 p.2) ∧ (∀ i, w.frozen? ⟨g, i, none⟩ = false) ∧ l.length = n ∧ n ≤ cap ∧ cap ≤ maxLen := by
  obtain ⟨hl, h⟩ := h
  rcases h with ⟨hv, h0⟩ | ⟨g', cap', cur, hv, _, hh, h1, h2, h3, h4⟩
  · cases hv
  · simp only [Value.slice.injEq, Option.some.injEq, Addr.mk.injEq] at hv
    obtain ⟨⟨rfl, -, -⟩, rfl, rfl⟩ := hv
    have hc := arcCells_get l j p hj
    refine ⟨?_, ?_, fun i => free_of hh i, rfl, h1, h2⟩
    · rw [cell_of hh]
      have := hc.1
      rw [← h4, List.getElem?_take] at this
      split at this
      · simpa using this
      · cases this
    · rw [cell_of hh]
      have := hc.2
      rw [← h4, List.getElem?_take] at this
      split at this
      · simpa using this
      · cases this
theorem ArcRow.form {w : World} {v : Value} {l : List Arc} (h : ArcRow w v l) : (v = .slice none 0 0 ∧ l = []) ∨ ∃ g cap, v = .slice (some ⟨g, 0, none⟩) l.length cap ∧ g < w.heap.size ∧ l.length ≤ cap ∧ cap ≤ maxLen := by
  obtain ⟨hl, h⟩ := h
  rcases h with ⟨hv, h0⟩ | ⟨g', cap', cur, hv, _, hh, h1, h2, h3, h4⟩
  · exact .inl ⟨hv, List.eq_nil_of_length_eq_zero h0⟩
  · exact .inr ⟨g', cap', hv, lt_of_get hh, h1, h2⟩
theorem ownsRow_keep {w w' : World} {b e s n : Nat} {v : Value} {xs : List Value} {S : Nat → Prop} (h : w.ownsRow b e s v n xs) (hk : Keep S w w') (hn : ∀ g, v.ownBlock = some g → ¬ S g) : w'.ownsRow b e s v n xs := by
  obtain ⟨hl, h⟩ := h
  refine ⟨hl, ?_⟩
  rcases h with h | ⟨g, cap, cur, hv, hb, hh, r⟩
  · exact .inl h
  · exact .inr ⟨g, cap, cur, hv, hb, hk.get hh (hn g (by rw [hv]; rfl)), r⟩
theorem ArcRow.keep {w w' : World} {v : Value} {l : List Arc} {S : Nat → Prop} (h : ArcRow w v l) (hk : Keep S w w') (hn : ∀ g, v.ownBlock = some g → ¬ S g) : ArcRow w' v l := ownsRow_keep h hk hn
theorem cmpArc_spec (fn : FuncId) (hf : fn = 169 ∨ fn = 169) (t k : Nat) (b : Nat) (w : World) (ht : t ≤ 4611686018427387904) (hk : k ≤ 4611686018427387904) :
    Calls Tryz.prog fn #[.agg #[.int .i64 (t : Int), .float .f64 b], .int .i64 (k : Int)] w fun e w' => e = .returned (.int .i64 ((t : Int) - (k : Int))) ∧ Keep (fun _ => False) w w' := by
  rcases hf with rfl | rfl
  · go_enter Tryz.func169, Tryz.ntmps169
    go_wp2
    go_ret
    exact ⟨rfl, (Keep.refl _ _).alloc _⟩
  · go_enter Tryz.func169, Tryz.ntmps169
    go_wp2
    go_ret
    exact ⟨rfl, (Keep.refl _ _).alloc _⟩
def FoundAt (l : List Arc) (k i : Nat) (b : Bool) : Prop :=
  i ≤ l.length ∧ (∀ j p, j < i → l[j]? = some p → p.1 < k) ∧ (∀ j p, i ≤ j → l[j]? = some p → k ≤ p.1) ∧ b = ((l[i]?).map (·.1) == some k)
theorem FoundAt.mk' {l : List Arc} {k i : Nat} {b : Bool} (h1 : i ≤ l.length) (h2 : ∀ j p, j < i → l[j]? = some p → p.1 < k) (h3 : ∀ j p, i ≤ j → l[j]? = some p → k ≤ p.1) (h4 : b = ((l[i]?).map (·.1) == some k)) : FoundAt l k i b := ⟨h1, h2, h3, h4⟩
set_option maxRecDepth 20000 in
theorem bsfArc_spec (fn : FuncId) (hf : fn = 169 ∨ fn = 169) {w : World} {g cap : Nat} {l : List Arc} (h : ArcRow w (.slice (some ⟨g, 0, none⟩) l.length cap) l) (hs : Asc l) (k : Nat)
    (hk : k ≤ 4611686018427387904) (hl : ∀ p ∈ l, p.1 ≤ 4611686018427387904) (hlen : l.length ≤ 1073741824) :
    Calls Tryz.prog 168 #[.slice (some ⟨g, 0, none⟩) l.length cap, .int .i64 (k : Int), .func (.func fn) #[] #[]] w fun e w' =>
      ∃ i b, FoundAt l k i b ∧ e = .returned (.tuple #[.int .i64 (i : Int), .bool b]) ∧ Keep (fun _ => False) w w' := by
  have hc := fun j p (hj : l[j]? = some p) => h.cell hj
  have hasc : ∀ (i j : Nat) (p q : Arc), i < j → l[i]? = some p → l[j]? = some q → p.1 < q.1 := fun i j p q hij hp hq => by
    obtain ⟨h1, rfl⟩ := List.getElem?_eq_some_iff.1 hp
    obtain ⟨h2, rfl⟩ := List.getElem?_eq_some_iff.1 hq
    exact List.pairwise_iff_getElem.1 hs i j h1 h2 hij
  have hsome : ∀ j, j < l.length → ∃ p, l[j]? = some p := fun j hj => ⟨_, List.getElem?_eq_getElem hj⟩
  have hl' : ∀ (j : Nat) (p : Arc), l[j]? = some p → p.1 ≤ 4611686018427387904 := fun j p hp => hl p (List.mem_of_getElem? hp)
  have hbig : ∀ wr, Keep (fun _ => False) w wr → ∀ (j : Nat) (p : Arc), l[j]? = some p → wr.cell? ⟨g, j * 2, none⟩ = some (.int .i64 (p.1 : Int)) ∧ wr.cell? ⟨g, j * 2 + 1, none⟩ = some (.float .f64 p.2) := fun wr hk j p hp => by
    have := hc j p hp
    exact ⟨by rw [hk.cell (World.block_lt_of_cell? _ _ this.1) (fun h => h)]; exact this.1, by rw [hk.cell (World.block_lt_of_cell? _ _ this.2.1) (fun h => h)]; exact this.2.1⟩
  have hnil : ∀ j, l.length ≤ j → l[j]? = none := fun j hj => List.getElem?_eq_none hj
  generalize hn : l.length = n at *
  have HN := Lib.hid hn
  have HB := Lib.hid hbig
  have HS := Lib.hid hsome
  have HA := Lib.hid hasc
  have HL := Lib.hid hl'
  have HNil := Lib.hid hnil
  have hcmp := fun t b w ht => cmpArc_spec fn hf t k b w ht hk
  have HC := Lib.hid hcmp
  clear hn h hc hbig hsome hasc hl hs hl' hcmp hnil
  rcases hf with rfl | rfl
  all_goals
    go_enter Tryz.func168, Tryz.ntmps168
    go_wp2_with fail
    go_loopw [9, 10, 11] (fun i j _ wr => ∃ a b : Nat, i = .int .i64 a ∧ j = .int .i64 b ∧ a ≤ b ∧ b ≤ n ∧ (∀ t p, t < a → l[t]? = some p → p.1 < k) ∧ (∀ t p, b ≤ t → l[t]? = some p → k ≤ p.1) ∧ Keep (fun _ => False) w wr)
      (fun i j _ _ => ((intOf j).toNat - (intOf i).toNat))
    case atStart => exact ⟨0, n, rfl, rfl, by omega, by omega, fun t p h _ => absurd h (Nat.not_lt_zero _), fun t p h hp => (by rw [HNil.out t h] at hp; cases hp), Keep.refl _ _⟩
    case round =>
      obtain ⟨a, b, rfl, rfl, h1, h2, h3, h4, h5⟩ := hrel
      have H3 := Lib.hid h3
      have H4 := Lib.hid h4
      have H5 := Lib.hid h5
      clear h3 h4 h5
      by_cases hlt : a < b
      · obtain ⟨p, hp⟩ := HS.out ((a + b) / 2) (by omega)
        have ⟨c0, c1⟩ := HB.out wr H5.out _ p hp
        have hpl := HL.out _ p hp
        have HP := Lib.hid hp
        clear hp
        go_wp2_with (first | ((with_reducible refine (HC.out p.1 p.2 wr hpl).mono ?_); rintro e w1 ⟨rfl, hk1⟩))
        · have hpk : p.1 < k := by have : ((p.1 : Int) - (k : Int)) < 0 := by assumption
                                   omega
          go_roundw
          case rel => exact ⟨(a + b) / 2 + 1, b, by go_num, rfl, by omega, h2, fun t q ht hq => (by
            rcases Nat.lt_or_ge t ((a + b) / 2) with h | h
            · exact Nat.lt_trans (HA.out t _ q p h hq HP.out) hpk
            · obtain rfl : t = (a + b) / 2 := by omega
              rw [HP.out] at hq; cases hq; exact hpk), H4.out, H5.out.trans hk1 (fun _ _ h => h)⟩
          case measure => simp [intOf]; omega
        · have hpk : k ≤ p.1 := by have : 0 ≤ ((p.1 : Int) - (k : Int)) := by assumption
                                   omega
          go_roundw
          case rel => exact ⟨a, (a + b) / 2, rfl, by go_num, by omega, by omega, H3.out, fun t q ht hq => (by
            rcases Nat.lt_or_ge ((a + b) / 2) t with h | h
            · exact Nat.le_trans hpk (Nat.le_of_lt (HA.out _ t p q h HP.out hq))
            · obtain rfl : t = (a + b) / 2 := by omega
              rw [HP.out] at hq; cases hq; exact hpk), H5.out.trans hk1 (fun _ _ h => h)⟩
          case measure => simp [intOf]; omega
      · obtain rfl : a = b := by omega
        by_cases hend : a < n
        · obtain ⟨p, hp⟩ := HS.out a hend
          have ⟨c0, c1⟩ := HB.out wr H5.out _ p hp
          have hpl := HL.out _ p hp
          have HP := Lib.hid hp
          clear hp
          have hb : (((p.1 : Int) - (k : Int)) == 0) = ((l[a]?).map (·.1) == some k) := by
            rw [HP.out, Bool.eq_iff_iff]; simp; omega
          have HBB := Lib.hid hb
          clear hb
          go_wp2_with (first | ((with_reducible refine (HC.out p.1 p.2 wr hpl).mono ?_); rintro e w1 ⟨rfl, hk1⟩))
          go_ret2
          exact ⟨a, _, ⟨by rw [HN.out]; omega, H3.out, H4.out, HBB.out⟩, rfl, H5.out.trans hk1 (fun _ _ h => h)⟩
        · have hb : false = ((l[a]?).map (·.1) == some k) := by
            rw [HNil.out a (by omega)]; rfl
          have HBB := Lib.hid hb
          clear hb
          go_wp2_with fail
          go_ret2
          exact ⟨a, _, ⟨by rw [HN.out]; omega, H3.out, H4.out, HBB.out⟩, rfl, H5.out⟩
end Go.Proofs.YtdaccgelmcmfjaaGreatDoor
end
