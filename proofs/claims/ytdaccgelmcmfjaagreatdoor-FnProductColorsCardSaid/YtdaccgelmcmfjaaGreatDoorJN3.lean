/- (*bronKerbosch).choosePivotFrom: the neighbours of some node of p, or of x where p has none. -/
import Derived.Test.YtdaccgelmcmfjaaGreatDoorJG0
import Derived.Test.YtdaccgelmcmfjaaGreatDoorJQ1
import Derived.ArgAppend
import Derived.RegionTactic
set_option linter.all false
section
namespace Go.Proofs.YtdaccgelmcmfjaaGreatDoor
open Go.RowKit Go.V
def PivotPost (w : World) (G : PG) (P X : List Int) (e : Ending) (w' : World) : Prop :=
  ∃ v g u i, e = .returned v ∧ NRow w' v g ((G.nbr i).map nodeV) ∧ G.ids[i]? = some u ∧ (P ≠ [] → u ∈ P) ∧ w.heap.size ≤ g ∧ Keep (fun _ => False) w w'
theorem From_mem {B : Nat} {w : World} {pb : Nat} {G : PG} (h : Plain B w pb G) {u : Int} (hu : u ∈ G.ids) :
    ∃ i, G.ids[i]? = some u ∧ ∀ W, Keep (fun _ => False) w W → Calls Tryz.prog 257 #[uV pb, .int .i64 u] W fun e w' => ∃ it g, e = .returned (.iface 284 (.pointer (some ⟨it, 0, none⟩))) ∧ Iter w' it g ((G.nbr i).map nodeV) 0 ∧ W.heap.size ≤ it ∧ W.heap.size ≤ g ∧ Keep (fun _ => False) W w' := by
  obtain ⟨i, hi⟩ := List.mem_iff_getElem?.1 hu
  exact ⟨i, hi, fun W hk => uFrom_spec (h.keepF hk) hi⟩
theorem new_at' {X : World} {s : Nat} (hX : X.heap.size = s) (o : Obj) : (X.alloc o).heap[s]? = some o := by rw [← hX]; exact heap_new X o
theorem one_cell {W : World} {b : Nat} {u0 : Value} {t : TypeId} (h : W.heap[b]? = some (.cells #[u0] t (0, 0))) (x : Value) : (W.setCell ⟨b, 0, none⟩ x).heap[b]? = some (.cells #[x] t (0, 0)) := by
  rw [heapV_setCell h]; simp
set_option maxHeartbeats 4000000 in
set_option maxRecDepth 20000 in
theorem pivot_spec {B : Nat} {w : World} {pb pm xm : Nat} {G : PG} {P X : List Int} {kv : Value} (hG : Plain B w pb G) (hp : NSet w pm P) (hx : NSet w xm X) (hP : ∀ u ∈ P, u ∈ G.ids) (hX : ∀ u ∈ X, u ∈ G.ids) (hne : P ≠ [] ∨ X ≠ []) :
    Calls Tryz.prog 175 #[kv, gV pb, .map (some pm), .map (some xm)] w (PivotPost w G P X) := by
  have hnf := nilFrom pb
  have hF := fun u (hu : u ∈ G.ids) => From_mem hG hu
  have HF := Lib.hid hF
  have HPM := Lib.hid hp
  have HXM := Lib.hid hx
  have HP := Lib.hid hP
  have HX := Lib.hid hX
  have HNE := Lib.hid hne
  have l1 := hp.lt
  have l2 := hx.lt
  clear hF hp hx hP hX hne hG
  have hw3 : ∀ S W, Keep S (((w.alloc (.cells #[gV pb] 126 (0, 0))).alloc (.cells #[.map (some pm)] 229 (0, 0))).alloc (.cells #[.slice none 0 0] 61 (0, 0))) W → (∀ b, S b → w.heap.size + 3 ≤ b) →
      W.heap[w.heap.size]? = some (.cells #[gV pb] 126 (0, 0)) ∧ W.heap[w.heap.size + 2]? = some (.cells #[.slice none 0 0] 61 (0, 0)) := fun S W hk hS => by
    refine ⟨hk.get ?_ (fun h => by have := hS _ h; omega), hk.get ?_ (fun h => by have := hS _ h; omega)⟩
    · rw [heap_old (by simp; omega), heap_old (by simp)]; exact heap_new w _
    · exact new_at' (by simp) _
  have HW3 := Lib.hid hw3
  clear hw3
  by_cases hPe : P = []
  · have hX0 : X ≠ [] := by rcases HNE.out with h | h
                            · exact absurd hPe h
                            · exact h
    have hnot : ¬ nkv X = [] := by simpa using hX0
    subst hPe
    go_enter Tryz.func175, Tryz.ntmps175
    go_wp2_with (first
      | (at_range; refine wpList_range_kv rfl _ _ rfl 2 66 Tryz.underlying229 pm _ rfl (HPM.out.keepF (by repeat first | exact Keep.refl _ _ | assumption | apply Keep.alloc | apply Keep.drewN | apply Keep.drew | (refine Keep.setCell ?_ _ (fun h => absurd h (Nat.lt_irrefl _))))) ?_; intro w0 hr hk hs; have HR0 := Lib.hid (show Rng w0 (w.heap.size + 3) pm (nkv []) (nkv []) by simpa using hr); have HK0 := Lib.hid hk; have HS0 := Lib.hid (show w0.heap.size = w.heap.size + 4 by simpa using hs); clear hr hk hs; go_frame))
    refine wp_loop_rounds 1 ?_
    rw [rounds_succ]
    go_wp2_with (first
      | (at_next; refine wpList_next_ent rfl _ rfl (w.heap.size + 3) pm _ _ rfl HR0.out ?_ ?_; rotate_left; intro k v w2 hmem; exact absurd hmem (by simp); intro hnil)
      | (at_range; refine wpList_range_kv rfl _ _ rfl 2 66 Tryz.underlying229 xm _ rfl (HXM.out.keepF (Keep.trans (by repeat first | exact Keep.refl _ _ | assumption | apply Keep.alloc | apply Keep.drewN | apply Keep.drew | (refine Keep.setCell ?_ _ (fun h => absurd h (Nat.lt_irrefl _)))) HK0.out (fun _ _ h => h))) ?_; intro w1 hr hk hs; have HR := Lib.hid hr; have hs0 : w.heap.size + 3 ≤ w0.heap.size := (by have := HS0.out; omega); have HK := Lib.hid (HK0.out.trans hk (fun _ _ h => h)); clear hr hk hs; go_frame))
    refine wp_loop_rounds 1 ?_
    rw [rounds_succ]
    go_wp2_with (first
      | (at_next; refine wpList_next_ent rfl _ rfl w0.heap.size xm _ _ rfl HR.out ?_ ?_; rotate_left; intro k v w2 hmem hr2 hk2 hs2 hent; obtain ⟨hkR, rfl⟩ := mem_nkv hmem; have HKR := Lib.hid hkR; have HK2 := Lib.hid ((HK.out.mono (T := fun b => b = w0.heap.size) (fun _ _ h => h.elim)).trans hk2 (fun _ _ h => h)); obtain ⟨a0, a2⟩ := HW3.out _ _ HK2.out (fun b hb => by omega); have c0 := cell_of a0 0; simp only [List.getElem?_toArray, List.getElem?_cons_zero] at c0; have A2 := Lib.hid a2; clear a0 a2; obtain ⟨i, hi, hfr⟩ := HF.out k (HX.out k hkR); have HI := Lib.hid hi; have HFR := Lib.hid hfr; clear hi hfr; have HKW := Lib.hid (show Keep (fun _ => False) w w2 from (((Keep.refl (fun _ => False) w).alloc _).alloc _ |>.alloc _).trans HK2.out (fun b hb h => by omega)); clear hmem hr2 hk2 hs2 hkR; rotate_left; intro hnil; exact absurd hnil hnot))
    go_region_with (first
      | (((with_reducible refine (ID_spec _ _).mono ?_); rintro e w3 ⟨rfl, rfl⟩))
      | (((with_reducible refine (HFR.out _ (HKW.out.drew)).mono ?_); rintro e w4 ⟨it, g, rfl, hi4, h1, h2, hk4⟩))
      | (((with_reducible refine (NodesOf_spec hi4).mono ?_); rintro e w5 ⟨v5, rfl, hn5, hk5, hs5⟩); obtain ⟨a5, n5, c5, rfl⟩ : ∃ a n c, v5 = .slice a n c := (by obtain ⟨a, c, h⟩ := hn5.slice; exact ⟨_, _, _, h⟩); have hkk : Keep (fun b => w.heap.size + 3 ≤ b) _ w5 := ((HK2.out.mono (T := fun b => w.heap.size + 3 ≤ b) (fun _ _ h => by omega)).drew.trans hk4 (fun _ _ h => h.elim)).trans hk5 (fun b hb h => by have := HK2.out.size; simp at this h1; omega); obtain ⟨b0, b2⟩ := HW3.out _ _ hkk (fun b hb => hb); have f2 := free_of b2 0; have c2 := cell_of b2 0; simp only [List.getElem?_toArray, List.getElem?_cons_zero] at c2; have HN5 := Lib.hid hn5; have HKK := Lib.hid hkk; have B2 := Lib.hid b2; clear hn5 hkk b0 b2 hk5 hs5))
    all_goals (go_wp2_with fail)
    all_goals
      have hc5 := fun x => cell_of (one_cell B2.out x) 0
      simp only [List.getElem?_toArray, List.getElem?_cons_zero] at hc5
      (try simp only [Exit.inBlock, Exit.then])
      refine bodyPost_ret (by simp [results, Tryz.results175, go_sem, hc5]; try rfl) rfl ?_
      have hkw : Keep (fun _ => False) w (w5.setCell ⟨w.heap.size + 2, 0, none⟩ (.slice a5 n5 c5)) :=
        ((((Keep.refl (fun _ => False) w).alloc _).alloc _ |>.alloc _).trans HKK.out (fun b hb h => by omega)).setCell _ (fun h => by simp at h; omega)
      refine ⟨_, g, k, i, rfl, HN5.out.keep ((Keep.refl (fun b => b = w.heap.size + 2) w5).setCell (a := ⟨w.heap.size + 2, 0, none⟩) _ (fun _ => rfl)) ?_, HI.out, fun h => absurd rfl h, ?_, hkw⟩
      · have := HK2.out.size; simp at this h2; omega
      · have := HK2.out.size; simp at this h2; omega
  · have hnot : ¬ nkv P = [] := by simpa using hPe
    go_enter Tryz.func175, Tryz.ntmps175
    go_wp2_with (first
      | (at_range; refine wpList_range_kv rfl _ _ rfl 2 66 Tryz.underlying229 pm _ rfl (HPM.out.keepF (by repeat first | exact Keep.refl _ _ | assumption | apply Keep.alloc | apply Keep.drewN | apply Keep.drew | (refine Keep.setCell ?_ _ (fun h => absurd h (Nat.lt_irrefl _))))) ?_; intro w1 hr hk hs; have HR := Lib.hid (show Rng w1 (w.heap.size + 3) pm (nkv P) (nkv P) by simpa using hr); have HK := Lib.hid hk; clear hr hk hs; go_frame))
    refine wp_loop_rounds 1 ?_
    rw [rounds_succ]
    go_wp2_with (first
      | (at_next; refine wpList_next_ent rfl _ rfl (w.heap.size + 3) pm _ _ rfl HR.out ?_ ?_; rotate_left; intro k v w2 hmem hr2 hk2 hs2 hent; obtain ⟨hkR, rfl⟩ := mem_nkv hmem; have HKR := Lib.hid hkR; have HK2 := Lib.hid ((HK.out.mono (T := fun b => b = w.heap.size + 3) (fun _ _ h => h.elim)).trans hk2 (fun _ _ h => h)); obtain ⟨a0, a2⟩ := HW3.out _ _ HK2.out (fun b hb => by omega); have c0 := cell_of a0 0; simp only [List.getElem?_toArray, List.getElem?_cons_zero] at c0; have A2 := Lib.hid a2; clear a0 a2; obtain ⟨i, hi, hfr⟩ := HF.out k (HP.out k hkR); have HI := Lib.hid hi; have HFR := Lib.hid hfr; clear hi hfr; have HKW := Lib.hid (show Keep (fun _ => False) w w2 from (((Keep.refl (fun _ => False) w).alloc _).alloc _ |>.alloc _).trans HK2.out (fun b hb h => by omega)); clear hmem hr2 hk2 hs2 hkR; rotate_left; intro hnil; exact absurd hnil hnot))
    go_region_with (first
      | (((with_reducible refine (ID_spec _ _).mono ?_); rintro e w3 ⟨rfl, rfl⟩))
      | (((with_reducible refine (HFR.out _ (HKW.out.drew)).mono ?_); rintro e w4 ⟨it, g, rfl, hi4, h1, h2, hk4⟩))
      | (((with_reducible refine (NodesOf_spec hi4).mono ?_); rintro e w5 ⟨v5, rfl, hn5, hk5, hs5⟩); obtain ⟨a5, n5, c5, rfl⟩ : ∃ a n c, v5 = .slice a n c := (by obtain ⟨a, c, h⟩ := hn5.slice; exact ⟨_, _, _, h⟩); have hkk : Keep (fun b => w.heap.size + 3 ≤ b) _ w5 := ((HK2.out.mono (T := fun b => w.heap.size + 3 ≤ b) (fun _ _ h => by omega)).drew.trans hk4 (fun _ _ h => h.elim)).trans hk5 (fun b hb h => by have := HK2.out.size; simp at this h1; omega); obtain ⟨b0, b2⟩ := HW3.out _ _ hkk (fun b hb => hb); have f2 := free_of b2 0; have c2 := cell_of b2 0; simp only [List.getElem?_toArray, List.getElem?_cons_zero] at c2; have HN5 := Lib.hid hn5; have HKK := Lib.hid hkk; have B2 := Lib.hid b2; clear hn5 hkk b0 b2 hk5 hs5))
    all_goals (go_wp2_with fail)
    all_goals
      have hc5 := fun x => cell_of (one_cell B2.out x) 0
      simp only [List.getElem?_toArray, List.getElem?_cons_zero] at hc5
      (try simp only [Exit.inBlock, Exit.then])
      refine bodyPost_ret (by simp [results, Tryz.results175, go_sem, hc5]; try rfl) rfl ?_
      have hkw : Keep (fun _ => False) w (w5.setCell ⟨w.heap.size + 2, 0, none⟩ (.slice a5 n5 c5)) :=
        ((((Keep.refl (fun _ => False) w).alloc _).alloc _ |>.alloc _).trans HKK.out (fun b hb h => by omega)).setCell _ (fun h => by simp at h; omega)
      refine ⟨_, g, k, i, rfl, HN5.out.keep ((Keep.refl (fun b => b = w.heap.size + 2) w5).setCell (a := ⟨w.heap.size + 2, 0, none⟩) _ (fun _ => rfl)) ?_, HI.out, fun _ => HKR.out, ?_, hkw⟩
      · have := HK2.out.size; simp at this h2; omega
      · have := HK2.out.size; simp at this h2; omega
end Go.Proofs.YtdaccgelmcmfjaaGreatDoor
end
/- (*bronKerbosch).maximalCliquePivot: it ends, and what it lays down are cliques. -/
section
namespace Go.Proofs.YtdaccgelmcmfjaaGreatDoor
open Go.RowKit Go.V
theorem ID_at (id : Int) (w : World) : Calls Tryz.prog 300 #[.int .i64 id] w fun e w' => e = .returned (.int .i64 id) ∧ w = w' := (ID_spec id w).mono (by rintro e w' ⟨h1, h2⟩; exact ⟨h1, h2.symm⟩)
theorem nlen {w : World} {m : Nat} {ks : List Int} (h : NSet w m ks) : (Builtin.len_ #[229] 3 #[.map (some m)]).run Tryz.prog w = .ok (.int .i64 (ks.length : Int)) w := by
  have := run_len_int (P := Tryz.prog) Tryz.underlying229 h 3
  rwa [show (nkv ks).length = ks.length by simp] at this
def CRow (w : World) (v : Value) (b : Nat) (l : List Int) : Prop := ∃ off cap, v = .slice (some ⟨b, off, none⟩) l.length cap ∧ Cells w b off (l.map nodeV) ∧ l ≠ [] ∧ l.length ≤ cap ∧ cap ≤ maxLen
theorem CRow.lt {w : World} {v : Value} {b : Nat} {l : List Int} (h : CRow w v b l) : b < w.heap.size := by
  obtain ⟨off, cap, _, hc, hne, _⟩ := h
  cases l with
  | nil => exact absurd rfl hne
  | cons x l => exact World.block_lt_of_cell? _ _ (hc 0 (nodeV x) (by simp))
theorem CRow.keep {w w' : World} {v : Value} {b : Nat} {l : List Int} {S : Nat → Prop} (h : CRow w v b l) (hk : Keep S w w') (hn : ¬ S b) : CRow w' v b l := by
  obtain ⟨off, cap, h1, h2, h3⟩ := h
  exact ⟨off, cap, h1, h2.keep hk hn, h3⟩
theorem CRow.ne_map {w : World} {v : Value} {b m : Nat} {l : List Int} {kvs : KV} (h : CRow w v b l) (hm : MapAt w m kvs) : m ≠ b := by
  rintro rfl
  obtain ⟨off, cap, _, hc, hne, _⟩ := h
  obtain ⟨es, c, h1, _⟩ := hm
  cases l with
  | nil => exact absurd rfl hne
  | cons x l =>
    have := hc 0 (nodeV x) (by simp)
    simp [World.cell?, h1] at this
theorem CRow.row {w : World} {v : Value} {b : Nat} {l : List Int} (h : CRow w v b l) : Row w.heap.size w v (l.map nodeV) := by
  have hl := h.lt
  obtain ⟨off, cap, h1, h2, h3, h4, h5⟩ := h
  exact .inr ⟨b, off, cap, by rw [List.length_map]; exact h1, hl, h2, by rw [List.length_map]; exact h4, h5⟩
structure CE where
  v : Value
  b : Nat
  l : List Int
structure BKAt (w : World) (G : PG) (kb : Nat) (v : Value) (cs : List CE) : Prop where
  head : w.heap[kb]? = some (.cells #[v] 232 (0, 0))
  own : w.ownsRow 0 61 1 v cs.length (cs.map (·.v))
  each : ∀ c ∈ cs, CRow w c.v c.b c.l ∧ Clique G c.l ∧ c.b ≠ kb ∧ v.ownBlock ≠ some c.b
  apart : v.ownBlock ≠ some kb
theorem BKAt.keep {w w' : World} {G : PG} {kb : Nat} {v : Value} {cs : List CE} {S : Nat → Prop} (h : BKAt w G kb v cs) (hk : Keep S w w') (h1 : ¬ S kb) (h2 : ∀ g, v.ownBlock = some g → ¬ S g) (h3 : ∀ c ∈ cs, ¬ S c.b) : BKAt w' G kb v cs :=
  ⟨hk.get h.head h1, ownsRow_keep h.own hk h2, fun c hc => ⟨(h.each c hc).1.keep hk (h3 c hc), (h.each c hc).2⟩, h.apart⟩
theorem ownBlock_lt {w : World} {b e s n : Nat} {v : Value} {xs : List Value} (h : w.ownsRow b e s v n xs) {g : Nat} (hg : v.ownBlock = some g) : g < w.heap.size := by
  rcases h.2 with ⟨rfl, _⟩ | ⟨g', cap, cur, rfl, hb, hh, _⟩
  · cases hg
  · cases hg; exact lt_of_get hh
theorem BKAt.keepN {w w' : World} {G : PG} {kb : Nat} {v : Value} {cs : List CE} {S : Nat → Prop} (h : BKAt w G kb v cs) (hk : Keep S w w') (hS : ∀ b, S b → w.heap.size ≤ b) : BKAt w' G kb v cs :=
  h.keep hk (fun h' => by have := hS _ h'; have := lt_of_get h.head; omega) (fun g hg h' => by have := hS _ h'; have := ownBlock_lt h.own hg; omega) (fun c hc h' => by have := hS _ h'; have := (h.each c hc).1.lt; omega)
theorem BKAt.push {w w2 : World} {G : PG} {kb rb g cap n : Nat} {v rv : Value} {cs : List CE} {r : List Int} (hb : BKAt w G kb v cs) (hr : CRow w rv rb r) (hcl : Clique G r) (h1 : rb ≠ kb) (h2 : v.ownBlock ≠ some rb)
    (hw : w2.ownsRow 0 61 1 (.slice (some ⟨g, 0, none⟩) (n + 1) cap) (n + 1) (cs.map (·.v) ++ [rv])) (hn : cs.length = n) (hk : Keep (fun b => v.ownBlock = some b) w w2) (h3 : v.ownBlock = some g ∨ w.heap.size ≤ g) :
    BKAt (w2.setCell ⟨kb, 0, none⟩ (.slice (some ⟨g, 0, none⟩) (n + 1) cap)) G kb (.slice (some ⟨g, 0, none⟩) (n + 1) cap) (cs ++ [⟨rv, rb, r⟩]) ∧ Keep (fun b => b = kb ∨ v.ownBlock = some b) w (w2.setCell ⟨kb, 0, none⟩ (.slice (some ⟨g, 0, none⟩) (n + 1) cap)) := by
  have hkl := lt_of_get hb.head
  have hgk : g ≠ kb := by
    rcases h3 with h | h
    · intro e; rw [e] at h; exact hb.apart h
    · omega
  have hks : Keep (fun b => b = kb) w2 (w2.setCell ⟨kb, 0, none⟩ (.slice (some ⟨g, 0, none⟩) (n + 1) cap)) := (Keep.refl (fun b => b = kb) w2).setCell (a := ⟨kb, 0, none⟩) _ (fun _ => rfl)
  have hgc : ∀ b, b < w.heap.size → v.ownBlock ≠ some b → g ≠ b := fun b hb hv => by
    rcases h3 with h | h
    · intro e; rw [e] at h; exact hv h
    · omega
  refine ⟨⟨?_, ?_, ?_, ?_⟩, ?_⟩
  · rw [heapV_setCell (hk.get hb.head hb.apart)]; simp
  · rw [List.length_append, List.map_append, hn]
    exact ownsRow_keep hw hks (fun g' hg' e => by cases hg'; exact hgk e)
  · intro c hc
    rcases List.mem_append.1 hc with hc | hc
    · obtain ⟨a1, a2, a3, a4⟩ := hb.each c hc
      exact ⟨(a1.keep hk a4).keep hks a3, a2, a3, fun e => hgc _ a1.lt a4 (by cases e; rfl)⟩
    · simp only [List.mem_singleton] at hc
      subst hc
      exact ⟨(hr.keep hk h2).keep hks h1, hcl, h1, fun e => hgc _ hr.lt h2 (by cases e; rfl)⟩
  · intro e; cases e; exact hgk rfl
  · exact (hk.mono (T := fun b => b = kb ∨ v.ownBlock = some b) (fun _ _ h => .inr h)).trans hks (fun _ _ h => .inl h)
def McpPost (w : World) (G : PG) (kb : Nat) (v : Value) (cs : List CE) (rb pm xm : Nat) (P X : List Int) (e : Ending) (w' : World) : Prop :=
  e = .returned (.tuple #[]) ∧ ∃ v' cs', BKAt w' G kb v' (cs ++ cs') ∧ (X = [] → cs' ≠ []) ∧ cs'.length ≤ 2 ^ P.length ∧ (∀ c ∈ cs', c.b = rb ∨ w.heap.size ≤ c.b) ∧
    Keep (fun b => b = kb ∨ v.ownBlock = some b ∨ b = pm ∨ b = xm) w w' ∧ (v'.ownBlock = v.ownBlock ∨ ∃ g, v'.ownBlock = some g ∧ w.heap.size ≤ g)
theorem infoSNode : (Tryz.prog.info? 61).map (fun i => (i.zero, i.size, i.bytes)) = some (some (.slice none 0 0), 1, 24) := by kernel_rfl
set_option maxHeartbeats 8000000 in
set_option maxRecDepth 100000 in
theorem mcp_leaf {w : World} {G : PG} {kb pb pm xm rb : Nat} {v rv : Value} {cs : List CE} {r : List Int} (hb : BKAt w G kb v cs) (hr : CRow w rv rb r) (hcl : Clique G r) (h1 : rb ≠ kb) (h2 : v.ownBlock ≠ some rb) (hp : NSet w pm []) (hx : NSet w xm [])
    (hlen : cs.length + 1 ≤ 1000000) :
    Calls Tryz.prog 139 #[.pointer (some ⟨kb, 0, none⟩), gV pb, rv, .map (some pm), .map (some xm)] w (McpPost w G kb v cs rb pm xm [] []) := by
  have hlp := nlen hp
  have hlx := nlen hx
  have kl := lt_of_get hb.head
  have hc0 := cell_of hb.head 0
  simp only [List.getElem?_toArray, List.getElem?_cons_zero] at hc0
  have HB := Lib.hid hb
  have HR := Lib.hid hr
  have HCL := Lib.hid hcl
  have HN1 := Lib.hid h1
  have HN2 := Lib.hid h2
  clear hp hx hb hr hcl h1 h2
  obtain ⟨roff, rcap, hrv, _⟩ := id HR.out
  subst hrv
  obtain ⟨i0, hi0, hz0, hz1, hz2⟩ := info_parts infoSNode
  have hbw := fun o => HB.out.keepN ((Keep.refl (fun _ => False) w).alloc o) (fun _ h => h.elim)
  have HBW := Lib.hid hbw
  clear hbw
  have hcl : cs.length = (cs.map (·.v)).length := by simp
  obtain ⟨va, vn, vc, hv⟩ : ∃ a n c, v = .slice a n c := by
    rcases HB.out.own.2 with ⟨h, _⟩ | ⟨_, _, _, h, _⟩ <;> exact ⟨_, _, _, h⟩
  have HV := Lib.hid hv
  clear hv hcl
  generalize hn : cs.length = n at *
  have HN := Lib.hid hn
  clear hn
  go_enter Tryz.func139, Tryz.ntmps139
  go_wp2_with (first
    | (at_builtin; refine wpList_append_own' rfl rfl 61 i0 _ 1 24 Tryz.underlying232 hi0 hz0 hz1 hz2 rfl (by decide) v n _ rfl (HN.out ▸ (HBW.out _).own) ⟨w.heap.size, 0, none⟩ 1 1 [_] rfl rfl (World.news_of_block (heap_new w _)) (by simp [Value.oneCell']) (by decide) (by unfold maxLen; omega) (by omega) ?_; intro g cap w2 h1 h2 h3 h4; have hk2 := ((Keep.refl (fun b => v.ownBlock = some b) w).alloc _).trans h2 (fun _ _ h => h); have hh2 := h2.get (HBW.out _).head HB.out.apart; have f2 := free_of hh2 0; have c2 := cell_of hh2 0; simp only [List.getElem?_toArray, List.getElem?_cons_zero] at c2))
  go_returns
  have h3' : v.ownBlock = some g ∨ w.heap.size ≤ g := by
    rcases h3 with h | h
    · exact .inl h
    · right; rw [h]; simp
  obtain ⟨q1, q2⟩ := HB.out.push HR.out HCL.out HN1.out HN2.out h1 HN.out hk2 h3'
  refine ⟨rfl, _, [⟨_, rb, r⟩], q1, fun _ => by simp, by simp, fun c hc => by simp at hc; rw [hc]; exact .inl rfl, q2.mono (fun b _ h => by rcases h with h | h; exact .inl h; exact .inr (.inl h)), ?_⟩
  rcases h3' with h | h
  · exact .inl h.symm
  · exact .inr ⟨g, rfl, h⟩
end Go.Proofs.YtdaccgelmcmfjaaGreatDoor
end
/- (*bronKerbosch).maximalCliquePivot: the recursion. -/
section
namespace Go.Proofs.YtdaccgelmcmfjaaGreatDoor
open Go.RowKit Go.V
theorem nodup_le {ids l : List Int} (hn : l.Nodup) (hs : ∀ u ∈ l, u ∈ ids) : l.length ≤ ids.length := by
  have := Colorable.clique (ids := ids) (adj := fun u v => u ≠ v) (m := ids.length) ⟨fun u => ids.idxOf u, fun u hu => List.idxOf_lt_length_iff.2 hu, fun u hu v hv huv he => huv (idxOf_inj hu hv he)⟩ l hn hs (fun u _ v _ huv => huv)
  exact this
theorem sadd_take {l : List Int} (hn : l.Nodup) {k : Nat} {u : Int} (hk : l[k]? = some u) : sadd (l.take k) u = l.take (k + 1) := by
  have hnot : u ∉ l.take k := by
    intro hu
    obtain ⟨j, hj⟩ := List.mem_iff_getElem?.1 hu
    rw [List.getElem?_take] at hj
    split at hj
    · rename_i hjk
      obtain ⟨h1, e1⟩ := List.getElem?_eq_some_iff.1 hj
      obtain ⟨h2, e2⟩ := List.getElem?_eq_some_iff.1 hk
      have := (List.getElem_inj (h₀ := h1) (h₁ := h2) hn).1 (e1.trans e2.symm)
      omega
    · cases hj
  rw [sadd_new hnot, List.take_add_one, hk]; rfl
theorem sdel_twice (l : List Int) (k : Int) : sdel (sdel l k) k = sdel l k := by
  unfold sdel; rw [List.filter_filter]; congr 1; funext x; simp
theorem Rng.iter {w : World} {r m : Nat} {kvs rest : KV} (h : Rng w r m kvs rest) : ∃ a b c d, w.heap[r]? = some (.mapIter a b c d) := by
  obtain ⟨es, c, seen, _, _, h3, _⟩ := h; exact ⟨_, _, _, _, h3⟩
structure MPre (w : World) (G : PG) (B pb kb pm xm rb : Nat) (v rv : Value) (cs : List CE) (r P X : List Int) : Prop where
  pl : Plain B w pb G
  bk : BKAt w G kb v cs
  rr : CRow w rv rb r
  cl : Clique G r
  n1 : rb ≠ kb
  n2 : v.ownBlock ≠ some rb
  p : NSet w pm P
  x : NSet w xm X
  px : pm ≠ xm
  hP : ∀ u ∈ P, u ∈ G.ids ∧ ∀ y ∈ r, G.adj y u
  hX : ∀ u ∈ X, u ∈ G.ids
  len : cs.length + 2 ^ P.length ≤ 1000000
  low : B ≤ kb ∧ (∀ g, v.ownBlock = some g → B ≤ g) ∧ B ≤ pm ∧ B ≤ xm
structure St (wr : World) (G : PG) (B pb kb pm xm rb r0 nm : Nat) (v rv : Value) (cs : List CE) (r Pc Xc rest NU : List Int) : Prop where
  pl : Plain B wr pb G
  bk : BKAt wr G kb v cs
  rr : CRow wr rv rb r
  n1 : rb ≠ kb
  n2 : v.ownBlock ≠ some rb
  p : NSet wr pm Pc
  x : NSet wr xm Xc
  px : pm ≠ xm
  rng : Rng wr r0 pm (nkv Pc) (nkv rest)
  nu : NSet wr nm NU
  nm1 : nm ≠ pm ∧ nm ≠ xm
  low : B ≤ kb ∧ (∀ g, v.ownBlock = some g → B ≤ g) ∧ B ≤ pm ∧ B ≤ xm
section
variable {wr w2 : World} {G : PG} {B pb kb pm xm rb r0 nm : Nat} {v rv : Value} {cs : List CE} {r Pc Xc rest NU : List Int}
theorem St.keepN {S : Nat → Prop} (h : St wr G B pb kb pm xm rb r0 nm v rv cs r Pc Xc rest NU) (hk : Keep S wr w2) (hS : ∀ b, S b → wr.heap.size ≤ b) : St w2 G B pb kb pm xm rb r0 nm v rv cs r Pc Xc rest NU :=
  have hl := h.p.lt
  have hl2 := h.x.lt
  have hl3 := h.nu.lt
  have hl4 := h.rng.lt
  have hl5 := h.rr.lt
  ⟨h.pl.keep hk (fun b hb => by have := hS b hb; have := h.low.2.2.1; omega), h.bk.keepN hk hS, h.rr.keep hk (fun hb => by have := hS _ hb; omega), h.n1, h.n2, h.p.keep hk (fun hb => by have := hS _ hb; omega),
    h.x.keep hk (fun hb => by have := hS _ hb; omega), h.px, Rng.keep h.rng hk (fun hb => by have := hS _ hb; omega) (fun hb => by have := hS _ hb; omega), h.nu.keep hk (fun hb => by have := hS _ hb; omega), h.nm1, h.low⟩
theorem St.r0_ne (h : St wr G B pb kb pm xm rb r0 nm v rv cs r Pc Xc rest NU) : r0 ≠ kb ∧ v.ownBlock ≠ some r0 ∧ r0 ≠ rb ∧ r0 ≠ pm ∧ r0 ≠ xm ∧ r0 ≠ nm ∧ ∀ c ∈ cs, r0 ≠ c.b := by
  obtain ⟨a, b, c, d, hi⟩ := Rng.iter h.rng
  have hcell : ∀ b' v' l, CRow wr v' b' l → r0 ≠ b' := by
    rintro b' v' l ⟨off, cap, _, hc, hne, _⟩ rfl
    cases l with
    | nil => exact hne rfl
    | cons y l => have := hc 0 (nodeV y) (by simp); simp [World.cell?, hi] at this
  have hmap : ∀ m ks, NSet wr m ks → r0 ≠ m := by
    rintro m ks ⟨es, c, hm, _⟩ rfl; rw [hi] at hm; cases hm
  refine ⟨?_, ?_, hcell _ _ _ h.rr, hmap _ _ h.p, hmap _ _ h.x, hmap _ _ h.nu, fun c hc => hcell _ _ _ (h.bk.each c hc).1⟩
  · rintro rfl; have := h.bk.head; rw [hi] at this; cases this
  · intro e
    rcases h.bk.own.2 with ⟨e', _⟩ | ⟨g, cap, cur, e', _, hh, _⟩
    · rw [e'] at e; cases e
    · rw [e'] at e; cases e; rw [hi] at hh; cases hh
theorem St.next {rest' : List Int} (h : St wr G B pb kb pm xm rb r0 nm v rv cs r Pc Xc rest NU) (hr : Rng w2 r0 pm (nkv Pc) (nkv rest')) (hk : Keep (fun b => b = r0) wr w2) (hlow : B ≤ r0) : St w2 G B pb kb pm xm rb r0 nm v rv cs r Pc Xc rest' NU := by
  obtain ⟨a1, a2, a3, a4, a5, a6, a7⟩ := h.r0_ne
  exact ⟨h.pl.keep hk (fun b hb => by omega), h.bk.keep hk (fun e => a1 e.symm) (fun g hg e => a2 (by rw [hg, e])) (fun c hc e => a7 c hc e.symm), h.rr.keep hk (fun e => a3 e.symm), h.n1, h.n2, h.p.keep hk (fun e => a4 e.symm), h.x.keep hk (fun e => a5 e.symm), h.px, hr, h.nu.keep hk (fun e => a6 e.symm), h.nm1, h.low⟩
theorem St.call {pm' xm' : Nat} {v' : Value} {cs' : List CE} (h : St wr G B pb kb pm xm rb r0 nm v rv cs r Pc Xc rest NU) (hb : BKAt w2 G kb v' cs') (hk : Keep (fun b => b = kb ∨ v.ownBlock = some b ∨ b = pm' ∨ b = xm') wr w2)
    (hp : pm' ≠ kb ∧ pm' ≠ rb ∧ pm' ≠ pm ∧ pm' ≠ xm ∧ pm' ≠ r0 ∧ pm' ≠ nm ∧ B ≤ pm') (hx : xm' ≠ kb ∧ xm' ≠ rb ∧ xm' ≠ pm ∧ xm' ≠ xm ∧ xm' ≠ r0 ∧ xm' ≠ nm ∧ B ≤ xm') (hm : v'.ownBlock = v.ownBlock ∨ ∃ g, v'.ownBlock = some g ∧ wr.heap.size ≤ g) :
    St w2 G B pb kb pm xm rb r0 nm v' rv cs' r Pc Xc rest NU := by
  obtain ⟨a1, a2, a3, a4, a5, a6, a7⟩ := h.r0_ne
  have hmap : ∀ m ks, NSet wr m ks → v.ownBlock ≠ some m := by
    rintro m ks ⟨es, c, hm, _⟩ e
    rcases h.bk.own.2 with ⟨e', _⟩ | ⟨g, cap, cur, e', _, hh, _⟩
    · rw [e'] at e; cases e
    · rw [e'] at e; cases e; rw [hh] at hm; cases hm
  have hkb : ∀ m ks, NSet wr m ks → m ≠ kb := by
    rintro m ks ⟨es, c, hm, _⟩ rfl
    have := h.bk.head; rw [this] at hm; cases hm
  have hset : ∀ m ks, NSet wr m ks → m ≠ pm' → m ≠ xm' → NSet w2 m ks := fun m ks hm h1 h2 => hm.keep hk (by
    rintro (e | e | e | e)
    · exact hkb m ks hm e
    · exact hmap m ks hm e
    · exact h1 e
    · exact h2 e)
  refine ⟨h.pl.keep hk (fun b hb => ?_), hb, h.rr.keep hk ?_, h.n1, ?_, hset _ _ h.p (Ne.symm hp.2.2.1) (Ne.symm hx.2.2.1), hset _ _ h.x (Ne.symm hp.2.2.2.1) (Ne.symm hx.2.2.2.1), h.px, Rng.keep h.rng hk ?_ ?_, hset _ _ h.nu (Ne.symm hp.2.2.2.2.2.1) (Ne.symm hx.2.2.2.2.2.1), h.nm1, h.low.1, fun g hg => ?_, h.low.2.2⟩
  · rcases hb with e | e | e | e
    · rw [e]; exact h.low.1
    · exact h.low.2.1 _ e
    · rw [e]; exact hp.2.2.2.2.2.2
    · rw [e]; exact hx.2.2.2.2.2.2
  · rintro (e | e | e | e)
    · exact h.n1 e
    · exact h.n2 e
    · exact hp.2.1 e.symm
    · exact hx.2.1 e.symm
  · intro e
    rcases hm with hm | ⟨g, hg, hge⟩
    · exact h.n2 (hm ▸ e)
    · rw [hg] at e; cases e; have := h.rr.lt; omega
  · rintro (e | e | e | e)
    · exact a1 e
    · exact a2 e
    · exact hp.2.2.2.2.1 e.symm
    · exact hx.2.2.2.2.1 e.symm
  · rintro (e | e | e | e)
    · exact hkb _ _ h.p e
    · exact hmap _ _ h.p e
    · exact hp.2.2.1 e.symm
    · exact hx.2.2.1 e.symm
  · rcases hm with hm | ⟨g', hg', hge⟩
    · exact h.low.2.1 g (hm ▸ hg)
    · rw [hg'] at hg; cases hg; have := h.low.2.2.1; have := h.p.lt; omega
theorem St.rem {k : Int} (h : St wr G B pb kb pm xm rb r0 nm v rv cs r Pc Xc rest NU) (hp : NSet w2 pm (sdel Pc k)) (hr : Rng w2 r0 pm (nkv (sdel Pc k)) (nkv (sdel rest k))) (hk : Keep (fun b => b = pm) wr w2) :
    St w2 G B pb kb pm xm rb r0 nm v rv cs r (sdel Pc k) Xc (sdel rest k) NU := by
  have hkb : pm ≠ kb := MapAt.ne_cells h.p h.bk.head
  refine ⟨h.pl.keep hk (fun b hb => by have := h.low.2.2.1; omega), h.bk.keep hk (fun e => hkb e.symm) (fun g hg e => ?_) (fun c hc e => CRow.ne_map (h.bk.each c hc).1 h.p e.symm), h.rr.keep hk (fun e => CRow.ne_map h.rr h.p e.symm), h.n1, h.n2, hp, h.x.keep hk (fun e => h.px e.symm), h.px, hr, h.nu.keep hk h.nm1.1, h.nm1, h.low⟩
  rcases h.bk.own.2 with ⟨e', _⟩ | ⟨g', cap, cur, e', _, hh, _⟩
  · rw [e'] at hg; cases hg
  · rw [e'] at hg; cases hg; exact MapAt.ne_cells h.p hh e.symm
theorem St.add {k : Int} (h : St wr G B pb kb pm xm rb r0 nm v rv cs r Pc Xc rest NU) (hx : NSet w2 xm (sadd Xc k)) (hk : Keep (fun b => b = xm) wr w2) :
    St w2 G B pb kb pm xm rb r0 nm v rv cs r Pc (sadd Xc k) rest NU := by
  have hkb : xm ≠ kb := MapAt.ne_cells h.x h.bk.head
  obtain ⟨a1, a2, a3, a4, a5, a6, a7⟩ := h.r0_ne
  refine ⟨h.pl.keep hk (fun b hb => by have := h.low.2.2.2; omega), h.bk.keep hk (fun e => hkb e.symm) (fun g hg e => ?_) (fun c hc e => CRow.ne_map (h.bk.each c hc).1 h.x e.symm), h.rr.keep hk (fun e => CRow.ne_map h.rr h.x e.symm), h.n1, h.n2, h.p.keep hk h.px, hx, h.px, Rng.keep h.rng hk a5 h.px, h.nu.keep hk h.nm1.2, h.nm1, h.low⟩
  rcases h.bk.own.2 with ⟨e', _⟩ | ⟨g', cap, cur, e', _, hh, _⟩
  · rw [e'] at hg; cases hg
  · rw [e'] at hg; cases hg; exact MapAt.ne_cells h.x hh e.symm
end
def McpSpec (B pb : Nat) (G : PG) (n : Nat) : Prop := ∀ (w : World) (kb pm xm rb : Nat) (v rv : Value) (cs : List CE) (r P X : List Int), P.length = n → MPre w G B pb kb pm xm rb v rv cs r P X →
  Calls Tryz.prog 139 #[.pointer (some ⟨kb, 0, none⟩), gV pb, rv, .map (some pm), .map (some xm)] w (McpPost w G kb v cs rb pm xm P X)
end Go.Proofs.YtdaccgelmcmfjaaGreatDoor
end
/- slices.Reverse at a row of nodes: it holds some of the nodes that it held, as many. -/
section
namespace Go.Proofs.YtdaccgelmcmfjaaGreatDoor
open Go.RowKit Go.V
theorem Cells.set {w : World} {b off j : Nat} {xs : List Value} (h : Cells w b off xs) (hj : j < xs.length) (u : Value) : Cells (w.setCell ⟨b, off + j, none⟩ u) b off (xs.set j u) := by
  intro k y hy
  rw [List.getElem?_set] at hy
  by_cases e : j = k
  · subst e
    rw [if_pos rfl, if_pos hj] at hy
    cases hy
    exact World.cell?_setCell_same _ _ _ (h.get hj)
  · rw [if_neg e] at hy
    rw [World.cell?_setCell_other _ _ _ _ (by intro e'; simp only [Addr.mk.injEq] at e'; omega)]
    exact h k y hy
theorem Free.set {w : World} {g : Nat} (h : Free w g) (a : Addr) (u : Value) : Free (w.setCell a u) g := ⟨by simpa using h.1, fun i => by simpa using h.2 i⟩
theorem Free.drew {w : World} {g : Nat} (h : Free w g) : Free w.drew g := ⟨h.1, h.2⟩
theorem mem_set_sub {α : Type} {l : List α} {j : Nat} {x y : α} (h : y ∈ l.set j x) : y = x ∨ y ∈ l := by
  rcases List.mem_or_eq_of_mem_set h with h | h
  · exact .inr h
  · exact .inl h
set_option maxHeartbeats 8000000 in
set_option maxRecDepth 20000 in
theorem reverse_spec {w : World} {v : Value} {g : Nat} {l : List Int} (h : NRow w v g (l.map nodeV)) (hl : 0 < l.length) (hlen : l.length ≤ 1000000) :
    Calls Tryz.prog 138 #[v] w fun e w' => ∃ l' : List Int, e = .returned (.tuple #[]) ∧ NRow w' v g (l'.map nodeV) ∧ l'.length = l.length ∧ (∀ u ∈ l', u ∈ l) ∧ Keep (fun b => b = g) w w' := by
  rcases h with ⟨_, h⟩ | ⟨off, cap, rfl, hc, h3, h4, h5⟩
  · have : l = [] := by simpa using h
    subst this; cases hl
  rw [List.length_map] at h3 ⊢
  have HC := Lib.hid hc
  have HF := Lib.hid h5
  generalize hn : l.length = n at *
  have HN := Lib.hid hn
  clear hc h5 hn
  unfold maxLen at h4
  go_enter Tryz.func138, Tryz.ntmps138
  go_wp2_with fail
  go_loopw [2, 3] (fun i j wr => ∃ (a b : Nat) (l' : List Int), i = .int .i64 (a : Int) ∧ j = .int .i64 (b : Int) ∧ a ≤ n ∧ b < n ∧ Cells wr g off (l'.map nodeV) ∧ l'.length = n ∧ (∀ u ∈ l', u ∈ l) ∧ Free wr g ∧ Keep (fun b => b = g) w wr) (fun i j _ => (intOf j).toNat - (intOf i).toNat)
  case atStart => exact ⟨0, n - 1, l, rfl, by congr 1; omega, by omega, by omega, HC.out, HN.out, fun u hu => hu, HF.out, Keep.refl _ _⟩
  case round =>
    obtain ⟨a, b, l', rfl, rfl, ha, hb, hcl, hl', hsub, hfr, hk⟩ := hrel
    have HCL := Lib.hid hcl
    have HL' := Lib.hid hl'
    have HSUB := Lib.hid hsub
    have HK := Lib.hid hk
    have hff := hfr.2
    have HFR := Lib.hid hfr
    clear hcl hl' hsub hk hfr
    by_cases hlt : a < b
    · obtain ⟨x, hx⟩ : ∃ x, l'[a]? = some x := ⟨_, List.getElem?_eq_getElem (by rw [HL'.out]; omega)⟩
      obtain ⟨y, hy⟩ : ∃ y, l'[b]? = some y := ⟨_, List.getElem?_eq_getElem (by rw [HL'.out]; omega)⟩
      have c0 := HCL.out a (nodeV x) (by rw [List.getElem?_map, hx]; rfl)
      have c1 := HCL.out b (nodeV y) (by rw [List.getElem?_map, hy]; rfl)
      have f0 := hff (off + a)
      have f1 := hff (off + b)
      have HX := Lib.hid hx
      have HY := Lib.hid hy
      clear hx hy hff
      have e1 : (0 : Int) ≤ (a : Int) := by omega
      have e2 : (a : Int) < (n : Int) := by omega
      have e3 : (0 : Int) ≤ (b : Int) := by omega
      have e4 : (b : Int) < (n : Int) := by omega
      go_wp2_with fail
      go_region
      all_goals go_wp2_with fail
      all_goals
        have h1 := HCL.out.set (j := a) (by rw [List.length_map, HL'.out]; omega) (nodeV y)
        have h2 := h1.set (j := b) (by rw [List.length_set, List.length_map, HL'.out]; omega) (nodeV x)
        rw [← List.map_set, ← List.map_set] at h2
        have hk : Keep (fun b => b = g) wr ((wr.setCell ⟨g, off + a, none⟩ (nodeV y)).setCell ⟨g, off + b, none⟩ (nodeV x)) := ((Keep.refl (fun b => b = g) wr).setCell (a := ⟨g, off + a, none⟩) _ (fun _ => rfl)).setCell (a := ⟨g, off + b, none⟩) _ (fun _ => rfl)
        refine ⟨⟨a + 1, b - 1, (l'.set a y).set b x, by go_num, ?_, by omega, by omega, h2, by simp [HL'.out], fun u hu => ?_, ((HFR.out.set _ _).set _ _).drew, (HK.out.trans hk (fun _ _ h => h)).drew⟩, ?_⟩
        · congr 1; omega
        · rcases mem_set_sub hu with rfl | hu
          · exact HSUB.out _ (List.mem_of_getElem? HX.out)
          · rcases mem_set_sub hu with rfl | hu
            · exact HSUB.out _ (List.mem_of_getElem? HY.out)
            · exact HSUB.out _ hu
        · simp [intOf]; omega
    · go_wp2_with fail
      go_end0
      exact ⟨l', rfl, .inr ⟨off, cap, by rw [List.length_map, HL'.out], HCL.out, by rw [List.length_map, HL'.out]; exact h3, by unfold maxLen; exact h4, HFR.out⟩, by rw [HL'.out], HSUB.out, HK.out⟩
end Go.Proofs.YtdaccgelmcmfjaaGreatDoor
end
