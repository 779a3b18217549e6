/- The order by degeneracy: what lies in memory between the loops. -/
import Derived.Test.YtdaccgelmcmfjaaGreatDoorN6
import Derived.Test.YtdaccgelmcmfjaaGreatDoorJN3
import Derived.Test.YtdaccgelmcmfjaaGreatDoorJV4
set_option linter.all false
namespace Go.V
open Go.RowKit
theorem kget_kput (C : KV) (k : Int) (v : Value) (u : Int) : kget (kput C k v) u = if u = k then some v else kget C u := by
  unfold kput kget
  by_cases ha : C.any (fun p => p.1 == k) = true
  · rw [if_pos ha]
    induction C with
    | nil => simp at ha
    | cons p C ih =>
      rw [List.map_cons, List.find?_cons, List.find?_cons]
      by_cases hp : p.1 = k
      · have hp' : (p.1 == k) = true := by simpa using hp
        simp only [hp', if_true]
        by_cases hu : u = k
        · simp [hu]
        · have h1 : (k == u) = false := by simpa using fun e => hu e.symm
          have h2 : (p.1 == u) = false := by rw [hp]; exact h1
          simp only [h1, h2, if_neg hu]
          by_cases ha' : C.any (fun p => p.1 == k) = true
          · rw [ih ha', if_neg hu]
          · have : C.map (fun p => if (p.1 == k) = true then (k, v) else p) = C := by
              conv => rhs; rw [← List.map_id C]
              apply List.map_congr_left
              intro q hq
              rw [if_neg (fun e => ha' (List.any_eq_true.2 ⟨q, hq, e⟩))]; rfl
            rw [this]
      · have hp' : (p.1 == k) = false := by simpa using hp
        simp only [hp', Bool.false_eq_true, if_false]
        simp only [List.any_cons, hp', Bool.false_or] at ha
        by_cases hpu : p.1 = u
        · have h1 : (p.1 == u) = true := by simpa using hpu
          simp only [h1]
          rw [if_neg (fun e => hp (hpu.trans e))]
        · have h1 : (p.1 == u) = false := by simpa using hpu
          simp only [h1]
          exact ih ha
  · rw [if_neg ha, List.find?_append]
    by_cases hu : u = k
    · subst hu
      have : C.find? (fun p => p.1 == u) = none := by
        rw [List.find?_eq_none]
        intro q hq e
        exact ha (List.any_eq_true.2 ⟨q, hq, e⟩)
      rw [this]; simp
    · have h1 : (k == u) = false := by simpa using fun e => hu e.symm
      rw [if_neg hu]
      simp [h1]
theorem owns_ne {w : World} {b b' s s' n n' : Nat} {e e' : TypeId} {v v' : Value} {xs xs' : List Value} (h : w.ownsRow b e s v n xs) (h' : w.ownsRow b' e' s' v' n' xs') (hne : e ≠ e') (g : Nat) (hg : v.ownBlock = some g) : v'.ownBlock ≠ some g := by
  intro hg'
  rcases h.2 with ⟨rfl, _⟩ | ⟨a, cap, cur, rfl, _, h1, _⟩
  · cases hg
  · rcases h'.2 with ⟨rfl, _⟩ | ⟨a', cap', cur', rfl, _, h1', _⟩
    · cases hg'
    · cases hg; cases hg'
      rw [h1] at h1'
      cases h1'
      exact hne rfl
theorem owns_slice {w : World} {b s n : Nat} {e : TypeId} {v : Value} {xs : List Value} (h : w.ownsRow b e s v n xs) : ∃ a cap, v = .slice a n cap := by
  rcases h.2 with ⟨rfl, rfl⟩ | ⟨g, cap, cur, rfl, _⟩
  · exact ⟨_, _, rfl⟩
  · exact ⟨_, _, rfl⟩
theorem owns_form {w : World} {b s n : Nat} {e : TypeId} {v : Value} {xs : List Value} (h : w.ownsRow b e s v n xs) (h0 : 0 < n) : ∃ g cap, v = .slice (some ⟨g, 0, none⟩) n cap ∧ b ≤ g ∧ g < w.heap.size ∧ (∀ i, w.frozen? ⟨g, i, none⟩ = false) := by
  rcases h.2 with ⟨rfl, rfl⟩ | ⟨g, cap, cur, rfl, hb, hh, _⟩
  · cases h0
  · exact ⟨g, cap, rfl, hb, lt_of_get hh, fun i => free_of hh i⟩
def degs (N : Int → List Int) (l : List Int) : PC := l.map fun u => (u, (N u).length)
theorem degs_step {N : Int → List Int} {l : List Int} {u : Int} (h : u ∉ l) : cput (degs N l) u (N u).length = degs N (l ++ [u]) := by
  unfold cput degs
  rw [if_neg, List.map_append]
  · rfl
  · rw [List.any_map]
    intro e
    obtain ⟨x, hx, e⟩ := List.any_eq_true.1 e
    have e : x = u := by simpa using e
    exact h (e ▸ hx)
theorem cget_degs (N : Int → List Int) (l : List Int) (u : Int) : cget (degs N l) u = if u ∈ l then some (N u).length else none := by
  unfold cget degs
  induction l with
  | nil => rfl
  | cons a l ih =>
    rw [List.map_cons, List.find?_cons]
    by_cases e : a = u
    · subst e
      simp
    · have h1 : (a == u) = false := by simpa using e
      simp only [h1]
      rw [ih]
      have h2 : ¬ u = a := fun e' => e e'.symm
      simp [h2]
theorem degs_length (N : Int → List Int) (l : List Int) : (degs N l).length = l.length := by unfold degs; simp
theorem DAt.start {te ts : TypeId} {enc : Int → Value} {w w' : World} {db lo m : Nat} (hh : w'.heap[db]? = some (.cells (Array.replicate m (Value.slice none 0 0)) ts (0, 0))) (hlo : db < lo ∧ lo ≤ w'.heap.size) :
    DAt te ts enc w' db lo (List.replicate m []) (Array.replicate m (Value.slice none 0 0)) (.slice none 0 0) := by
  have hat : ∀ (j : Nat) (v : Value), (Array.replicate m (Value.slice none 0 0))[j]? = some v → v = .slice none 0 0 := fun j v h => by
    rw [Array.getElem?_replicate] at h
    split at h
    · exact (Option.some.inj h).symm
    · cases h
  refine ⟨hh, by simp, hlo, fun j l hl => ?_, fun i j vi vj g _ hi _ hg => ?_, fun j v g hv hg => ?_⟩
  · rw [List.getElem?_replicate] at hl
    split at hl
    · rename_i hj
      cases hl
      exact ⟨.slice none 0 0, by rw [Array.getElem?_replicate, if_pos hj], World.ownsRow_nil _ _ _ _⟩
    · cases hl
  · rw [hat i vi hi] at hg; cases hg
  · rw [hat j v hv] at hg; cases hg
section
variable {te ts : TypeId} {enc : Int → Value} {w w1 w' : World} {db lo : Nat} {D : List (List Int)} {cs : Array Value} {lv : Value}
theorem DAt.at_ (h : DAt te ts enc w db lo D cs lv) {j : Nat} {l : List Int} (hl : D[j]? = some l) : ∃ a cap, cs[j]? = some (.slice a l.length cap) ∧ w.cell? ⟨db, j, none⟩ = some (.slice a l.length cap) ∧ w.ownsRow lo te 1 (.slice a l.length cap) l.length (l.map enc) := by
  obtain ⟨v, h1, h2⟩ := h.row j l hl
  obtain ⟨a, cap, rfl⟩ := owns_slice h2
  exact ⟨a, cap, h1, by rw [cell_of h.blk]; exact h1, h2⟩
theorem DAt.free (h : DAt te ts enc w db lo D cs lv) (i : Nat) : w.frozen? ⟨db, i, none⟩ = false := free_of h.blk i
theorem DAt.after (h : DAt te ts enc w db lo D cs lv) {j : Nat} {v : Value} (hv : cs[j]? = some v) {o : Obj} (hk : Keep (fun b => v.ownBlock = some b) (w.alloc o) w1) : w1.cell? ⟨db, j, none⟩ = some v ∧ ∀ i, w1.frozen? ⟨db, i, none⟩ = false := by
  have hb := hk.get ((Keep.refl (fun _ => False) w).alloc o |>.get h.blk (fun h => h)) (fun e => by have := (h.own_lt hv e).1; have := h.low.1; omega)
  exact ⟨by rw [cell_of hb]; exact hv, fun i => free_of hb i⟩
theorem DAt.push (h : DAt te ts enc w db lo D cs lv) {j : Nat} {v : Value} {l : List Int} (hv : cs[j]? = some v) {u : Int} {o : Obj} {g cap n : Nat} (hn : l.length = n) (h1 : w1.ownsRow 0 te 1 (.slice (some ⟨g, 0, none⟩) (n + 1) cap) (n + 1) (l.map enc ++ [enc u]))
    (h2 : Keep (fun b => v.ownBlock = some b) (w.alloc o) w1) (h3 : v.ownBlock = some g ∨ g = (w.alloc o).heap.size) (hlv : ∀ g, lv.ownBlock = some g → g < w.heap.size) :
    DAt te ts enc (w1.setCell ⟨db, j, none⟩ (.slice (some ⟨g, 0, none⟩) (n + 1) cap)) db lo (D.set j (l ++ [u])) (cs.setIfInBounds j (.slice (some ⟨g, 0, none⟩) (n + 1) cap)) lv := by
  have hlo : lo ≤ g := by
    rcases h3 with h3 | h3
    · exact (h.own_lt hv h3).1
    · have := h.low.2; rw [h3, World.size_alloc]; omega
  refine (h.keepF ((Keep.refl _ w).alloc o)).put hv h2 (fun b hb => hb) ?_ ?_ (fun g hg => by have := hlv g hg; rw [World.size_alloc]; omega)
  · rw [show (l ++ [u]).length = n + 1 by simp [hn], List.map_append]
    exact owns_lift h1 (fun g' hg' => by cases hg'; exact hlo)
  · rcases h3 with h3 | h3
    · exact .inl h3.symm
    · right; rw [← h3]; rfl
end
theorem byDeg_le {ids : List Int} {N : Int → List Int} {m k j : Nat} {l : List Int} (h : (byDeg ids N m k)[j]? = some l) : l.length ≤ ids.length := by
  have hj : j < m := by have := (List.getElem?_eq_some_iff.1 h).1; rwa [byDeg_length] at this
  rw [byDeg_get hj] at h
  cases h
  refine Nat.le_trans (List.length_filter_le _ _) ?_
  rw [List.length_take]; omega
theorem kget_degs {N : Int → List Int} {l : List Int} {u : Int} (h : u ∈ l) : kget (ckv (degs N l)) u = some (.int .i64 ((N u).length : Int)) := by
  rw [kget_ckv, cget_degs, if_pos h]; rfl
end Go.V
namespace Go.Proofs.YtdaccgelmcmfjaaGreatDoor
open Go.RowKit Go.V
def nbo (G : PG) (u : Int) : List Int := G.nbr (G.ids.idxOf u)
theorem idx_at {G : PG} (h : G.Ok) {i : Nat} {u : Int} (hi : G.ids[i]? = some u) : G.ids.idxOf u = i := by
  have hm : u ∈ G.ids := List.mem_of_getElem? hi
  have h1 : G.ids[G.ids.idxOf u]? = some u := by
    rw [List.getElem?_eq_getElem (List.idxOf_lt_length_iff.2 hm)]
    simp
  exact h.inj h1 hi
theorem nbo_at {G : PG} (h : G.Ok) {i : Nat} {u : Int} (hi : G.ids[i]? = some u) : nbo G u = G.nbr i := by unfold nbo; rw [idx_at h hi]
theorem nbo_mem {G : PG} (h : G.Ok) {u : Int} (hu : u ∈ G.ids) (v : Int) : v ∈ nbo G u ↔ G.adj u v := by
  obtain ⟨i, hi⟩ := List.mem_iff_getElem?.1 hu
  rw [nbo_at h hi]; exact PG.mem_nbr h hi v
theorem nbo_nodup {G : PG} (h : G.Ok) {u : Int} (hu : u ∈ G.ids) : (nbo G u).Nodup := by
  obtain ⟨i, hi⟩ := List.mem_iff_getElem?.1 hu
  rw [nbo_at h hi]; exact PG.nbr_nodup h hi
theorem nbo_length {G : PG} (h : G.Ok) {u : Int} (hu : u ∈ G.ids) : (nbo G u).length ≤ 1000 := by
  obtain ⟨i, hi⟩ := List.mem_iff_getElem?.1 hu
  rw [nbo_at h hi]; exact Nat.le_trans (PG.nbr_length h hi) h.small
def RowsOf (w : World) (lo hi : Nat) (N : Int → List Int) (l : List Int) (kvs : KV) : Prop :=
  ∀ u ∈ l, ∃ v g, kget kvs u = some v ∧ NRow w v g ((N u).map nodeV) ∧ lo ≤ g ∧ g < hi
theorem RowsOf.keep {S : Nat → Prop} {w w' : World} {lo hi : Nat} {N : Int → List Int} {l : List Int} {kvs : KV} (h : RowsOf w lo hi N l kvs) (hk : Keep S w w') (hS : ∀ g, lo ≤ g → g < hi → ¬ S g) : RowsOf w' lo hi N l kvs := fun u hu => by
  obtain ⟨v, g, h1, h2, h3, h4⟩ := h u hu
  exact ⟨v, g, h1, h2.keep hk (hS g h3 h4), h3, h4⟩
theorem RowsOf.mono {w : World} {lo hi hi' : Nat} {N : Int → List Int} {l : List Int} {kvs : KV} (h : RowsOf w lo hi N l kvs) (hh : hi ≤ hi') : RowsOf w lo hi' N l kvs := fun u hu => by
  obtain ⟨v, g, h1, h2, h3, h4⟩ := h u hu
  exact ⟨v, g, h1, h2, h3, by omega⟩
theorem RowsOf.put {w : World} {lo hi : Nat} {N : Int → List Int} {l : List Int} {kvs : KV} {u : Int} {v : Value} {g : Nat} (h : RowsOf w lo hi N l kvs) (hv : NRow w v g ((N u).map nodeV)) (h1 : lo ≤ g) (h2 : g < hi) : RowsOf w lo hi N (l ++ [u]) (kput kvs u v) := fun x hx => by
  by_cases e : x = u
  · subst e
    exact ⟨v, g, by rw [kget_kput, if_pos rfl], hv, h1, h2⟩
  · rcases List.mem_append.1 hx with hx | hx
    · obtain ⟨v', g', q1, q2, q3, q4⟩ := h x hx
      exact ⟨v', g', by rw [kget_kput, if_neg e]; exact q1, q2, q3, q4⟩
    · exact absurd (by simpa using hx) e
theorem mkD (W : World) (k : Nat) (hk : k ≤ 100000) : (Instr.makeSlice 129 (.int .i64 (k : Int)) (.int .i64 (k : Int))).run Tryz.prog W = .ok (.slice (some ⟨W.heap.size, 0, none⟩) k k) (W.alloc (.cells (Array.replicate k (Value.slice none 0 0)) 61 (0, 0))) := by
  obtain ⟨i, hi, hz, hsize, hby⟩ := info_parts infoSNode
  have hr := run_make (P := Tryz.prog) W 129 61 i _ Tryz.underlying129 hi hz .i64 .i64 k k (by omega) (Int.le_refl _) (by rw [hby]; omega) (by omega)
  simp only [Int.toNat_natCast] at hr
  rw [hr, hsize]
  have : madeCells (Value.slice none 0 0).cells (k * 1) = Array.replicate k (Value.slice none 0 0) := by
    apply Array.ext_getElem?
    intro j
    by_cases hj : j < k <;> simp [madeCells, Value.cells, Array.getElem?_map, Array.getElem?_range, Array.getElem?_replicate, hj, Nat.mod_one]
  rw [this]
structure DS (G : PG) (w0 : World) (mb M : Nat) (wv : World) (C : PC) (D : List (List Int)) (cs : Array Value) (lv sv : Value) (ord : List Int) (k : Nat) : Prop where
  col : ColAt wv mb C
  dat : DAt 66 61 nodeV wv w0.heap.size (w0.heap.size + 1) D cs lv
  ow : wv.ownsRow (w0.heap.size + 1) 66 1 lv ord.length (ord.map nodeV)
  svr : ∃ xs : List Int, wv.ownsRow (w0.heap.size + 1) 3 1 sv (k + 1) (xs.map fun x => Value.int .i64 x)
  keep : Keep (fun b => b = mb) w0 wv
  mlt : mb < w0.heap.size
  mem : ∀ u ∈ ord, u ∈ G.ids
  len : D.length = M
section
variable {G : PG} {w0 wv wx : World} {mb M : Nat} {C : PC} {D : List (List Int)} {cs : Array Value} {lv sv : Value} {ord : List Int} {k : Nat}
theorem DS.lv_ge (h : DS G w0 mb M wv C D cs lv sv ord k) (g : Nat) (hg : lv.ownBlock = some g) : w0.heap.size + 1 ≤ g ∧ g < wv.heap.size := h.ow.lt g hg
theorem DS.sv_ge (h : DS G w0 mb M wv C D cs lv sv ord k) (g : Nat) (hg : sv.ownBlock = some g) : w0.heap.size + 1 ≤ g ∧ g < wv.heap.size := by
  obtain ⟨xs, hx⟩ := h.svr; exact hx.lt g hg
theorem DS.sv_ne_row (h : DS G w0 mb M wv C D cs lv sv ord k) (g : Nat) (hg : sv.ownBlock = some g) (j : Nat) (v : Value) (hv : cs[j]? = some v) : v.ownBlock ≠ some g := by
  obtain ⟨xs, hx⟩ := h.svr
  obtain ⟨l, hl⟩ := h.dat.some_row hv
  obtain ⟨v', h1, h2⟩ := h.dat.row j l hl
  rw [hv] at h1; cases h1
  exact owns_ne hx h2 (by decide) g hg
theorem DS.sv_ne_lv (h : DS G w0 mb M wv C D cs lv sv ord k) (g : Nat) (hg : sv.ownBlock = some g) : lv.ownBlock ≠ some g := by
  obtain ⟨xs, hx⟩ := h.svr
  exact owns_ne hx h.ow (by decide) g hg
theorem DS.keepF (h : DS G w0 mb M wv C D cs lv sv ord k) (hk : Keep (fun _ => False) wv wx) : DS G w0 mb M wx C D cs lv sv ord k := by
  obtain ⟨xs, hx⟩ := h.svr
  exact ⟨h.col.keepF hk, h.dat.keepF hk, owns_keep h.ow hk (fun _ _ h => h), ⟨xs, owns_keep hx hk (fun _ _ h => h)⟩, h.keep.trans hk (fun _ _ h => h.elim), h.mlt, h.mem, h.len⟩
theorem DS.col' {C' : PC} (h : DS G w0 mb M wv C D cs lv sv ord k) (hc : ColAt wx mb C') (hk : Keep (fun b => b = mb) wv wx) : DS G w0 mb M wx C' D cs lv sv ord k := by
  obtain ⟨xs, hx⟩ := h.svr
  have := h.mlt
  exact ⟨hc, h.dat.keep hk (by omega) (fun b hb _ e => by omega), owns_keep h.ow hk (fun g hg e => by have := (h.lv_ge g hg).1; omega), ⟨xs, owns_keep hx hk (fun g hg e => by have := (h.sv_ge g hg).1; omega)⟩, h.keep.trans hk (fun _ _ h => h), h.mlt, h.mem, h.len⟩
theorem DS.sv' {sv' : Value} {k' : Nat} (h : DS G w0 mb M wv C D cs lv sv ord k) (hk : Keep (fun b => sv.ownBlock = some b) wv wx) (hr : ∃ xs : List Int, wx.ownsRow (w0.heap.size + 1) 3 1 sv' (k' + 1) (xs.map fun x => Value.int .i64 x)) : DS G w0 mb M wx C D cs lv sv' ord k' := by
  have hge : ∀ b, sv.ownBlock = some b → w0.heap.size + 1 ≤ b := fun b hb => (h.sv_ge b hb).1
  have := h.mlt
  refine ⟨h.col.keep hk (fun e => by have := hge _ e; omega), ⟨hk.get h.dat.blk (fun e => by have := hge _ e; omega), h.dat.size, ⟨h.dat.low.1, Nat.le_trans h.dat.low.2 hk.size⟩, fun j l hl => ?_, h.dat.apart, h.dat.far⟩, owns_keep h.ow hk (fun g hg e => h.sv_ne_lv g e hg), hr, h.keep.trans hk (fun b hb e => by have := hge _ e; omega), h.mlt, h.mem, h.len⟩
  obtain ⟨v, a, b⟩ := h.dat.row j l hl
  exact ⟨v, a, owns_keep b hk (fun g hg e => h.sv_ne_row g e j v a hg)⟩
theorem DS.stored {sg n cap i : Nat} {x : Int} (h : DS G w0 mb M wv C D cs lv (.slice (some ⟨sg, 0, none⟩) n cap) ord k) : DS G w0 mb M (wv.setCell ⟨sg, i, none⟩ (.int .i64 x)) C D cs lv (.slice (some ⟨sg, 0, none⟩) n cap) ord k := by
  refine h.sv' ((Keep.refl _ wv).setCell (a := ⟨sg, i, none⟩) _ (fun _ => rfl)) ?_
  obtain ⟨xs, hx⟩ := h.svr
  obtain ⟨a, c, e⟩ := owns_slice hx
  cases e
  refine ⟨xs.set i x, ?_⟩
  rw [List.map_set]
  exact (hx.stored i _).1
theorem DS.cells (h : DS G w0 mb M wv C D cs lv sv ord k) : ∃ sg cap, sv = .slice (some ⟨sg, 0, none⟩) (k + 1) cap ∧ (∀ i, wv.frozen? ⟨sg, i, none⟩ = false) ∧ ∀ i, i < k + 1 → ∃ x : Int, wv.cell? ⟨sg, i, none⟩ = some (.int .i64 x) := by
  obtain ⟨xs, hx⟩ := h.svr
  obtain ⟨g, cap, rfl, _, _, hf⟩ := owns_form hx (by omega)
  refine ⟨g, cap, rfl, hf, fun i hi => ?_⟩
  have hl : xs.length = k + 1 := by simpa using hx.1
  have hc := hx.cells (g := g) rfl i (.int .i64 xs[i]) (by rw [List.getElem?_map, List.getElem?_eq_getElem (by omega)]; rfl)
  rw [Addr.add_lit, Nat.zero_add] at hc
  exact ⟨_, hc⟩
theorem DS.setRow {j : Nat} {v' : Value} {l : List Int} (h : DS G w0 mb M wv C D cs lv sv ord k) (hd : DAt 66 61 nodeV wx w0.heap.size (w0.heap.size + 1) (D.set j l) (cs.setIfInBounds j v') lv) {S : Nat → Prop} (hk : Keep S wv wx)
    (hS : ∀ b, S b → b = w0.heap.size ∨ ∃ v, cs[j]? = some v ∧ v.ownBlock = some b) : DS G w0 mb M wx C (D.set j l) (cs.setIfInBounds j v') lv sv ord k := by
  obtain ⟨xs, hx⟩ := h.svr
  have := h.mlt
  have hge : ∀ b, S b → w0.heap.size ≤ b := fun b hb => by
    rcases hS b hb with e | ⟨v, h1, h2⟩
    · omega
    · have := (h.dat.own_lt h1 h2).1; omega
  refine ⟨h.col.keep hk (fun e => by have := hge _ e; omega), hd, owns_keep h.ow hk (fun g hg e => ?_), ⟨xs, owns_keep hx hk (fun g hg e => ?_)⟩, h.keep.trans hk (fun b hb e => by have := hge _ e; omega), h.mlt, h.mem, by rw [List.length_set]; exact h.len⟩
  · rcases hS g e with e | ⟨v, h1, h2⟩
    · have := (h.lv_ge g hg).1; omega
    · exact h.dat.far j v g h1 h2 hg
  · rcases hS g e with e | ⟨v, h1, h2⟩
    · have := (h.sv_ge g hg).1; omega
    · exact h.sv_ne_row g hg j v h1 h2
theorem DS.lvlt (h : DS G w0 mb M wv C D cs lv sv ord k) (g : Nat) (hg : lv.ownBlock = some g) : g < wv.heap.size := (h.lv_ge g hg).2
theorem DS.pop (h : DS G w0 mb M wv C D cs lv sv ord k) {j g n cap : Nat} {l : List Int} {x : Int} (hD : D[j]? = some (l ++ [x])) (hn : l.length = n) (hv : cs[j]? = some (.slice (some ⟨g, 0, none⟩) (n + 1) cap)) :
    DS G w0 mb M (wv.setCell ⟨w0.heap.size, j, none⟩ (.slice (some ⟨g, 0, none⟩) n cap)) C (D.set j l) (cs.setIfInBounds j (.slice (some ⟨g, 0, none⟩) n cap)) lv sv ord k :=
  h.setRow (h.dat.pop hD hn hv h.lvlt) (S := fun b => b = w0.heap.size) ((Keep.refl _ _).setCell (a := ⟨w0.heap.size, j, none⟩) _ (fun _ => rfl)) (fun b hb => .inl hb)
theorem DS.strike (h : DS G w0 mb M wv C D cs lv sv ord k) {j g n cap i : Nat} {l : List Int} {x y : Int} (hD : D[j]? = some l) (hi : l[i]? = some x) (hy : l[n]? = some y) (hn : l.length = n + 1) (hv : cs[j]? = some (.slice (some ⟨g, 0, none⟩) (n + 1) cap)) :
    DS G w0 mb M ((wv.setCell ⟨g, i, none⟩ (nodeV y)).setCell ⟨w0.heap.size, j, none⟩ (.slice (some ⟨g, 0, none⟩) n cap)) C (D.set j (Go.V.strike l i)) (cs.setIfInBounds j (.slice (some ⟨g, 0, none⟩) n cap)) lv sv ord k :=
  h.setRow (h.dat.strike hD hi hy hn hv h.lvlt) (S := fun b => b = w0.heap.size ∨ b = g) (((Keep.refl _ _).setCell (a := ⟨g, i, none⟩) _ (fun _ => .inr rfl)).setCell (a := ⟨w0.heap.size, j, none⟩) _ (fun _ => .inl rfl)) (fun b hb => by
    rcases hb with hb | hb
    · exact .inl hb
    · exact .inr ⟨_, hv, by rw [hb]; rfl⟩)
theorem DS.push (h : DS G w0 mb M wv C D cs lv sv ord k) {w1 : World} {j : Nat} {v : Value} {l : List Int} (hv : cs[j]? = some v) {u : Int} {o : Obj} {g cap n : Nat} (hn : l.length = n) (h1 : w1.ownsRow 0 66 1 (.slice (some ⟨g, 0, none⟩) (n + 1) cap) (n + 1) (l.map nodeV ++ [nodeV u]))
    (h2 : Keep (fun b => v.ownBlock = some b) (wv.alloc o) w1) (h3 : v.ownBlock = some g ∨ g = (wv.alloc o).heap.size) :
    DS G w0 mb M (w1.setCell ⟨w0.heap.size, j, none⟩ (.slice (some ⟨g, 0, none⟩) (n + 1) cap)) C (D.set j (l ++ [u])) (cs.setIfInBounds j (.slice (some ⟨g, 0, none⟩) (n + 1) cap)) lv sv ord k :=
  h.setRow (h.dat.push hv hn h1 h2 h3 h.lvlt) (S := fun b => b = w0.heap.size ∨ v.ownBlock = some b)
    ((((Keep.refl _ wv).alloc o).trans h2 (fun _ _ e => .inr e)).setCell (a := ⟨w0.heap.size, j, none⟩) _ (fun _ => .inl rfl)) (fun b hb => by
      rcases hb with hb | hb
      · exact .inl hb
      · exact .inr ⟨_, hv, hb⟩)
theorem DS.lpush (h : DS G w0 mb M wv C D cs lv sv ord k) {w1 : World} {u : Int} (hu : u ∈ G.ids) {o : Obj} {g cap n : Nat} (hn : ord.length = n) (h1 : w1.ownsRow 0 66 1 (.slice (some ⟨g, 0, none⟩) (n + 1) cap) (n + 1) (ord.map nodeV ++ [nodeV u]))
    (h2 : Keep (fun b => lv.ownBlock = some b) (wv.alloc o) w1) (h3 : lv.ownBlock = some g ∨ g = (wv.alloc o).heap.size) : DS G w0 mb M w1 C D cs (.slice (some ⟨g, 0, none⟩) (n + 1) cap) sv (ord ++ [u]) k := by
  have h' := h.keepF ((Keep.refl _ wv).alloc o)
  obtain ⟨xs, hx⟩ := h'.svr
  have := h.mlt
  have hge : ∀ b, lv.ownBlock = some b → w0.heap.size + 1 ≤ b := fun b hb => (h.lv_ge b hb).1
  refine ⟨h'.col.keep h2 (fun e => by have := hge _ e; omega), h'.dat.grow h2 (fun e => by have := hge _ e; omega) ?_, ?_, ⟨xs, owns_keep hx h2 (fun g hg e => h'.sv_ne_lv g hg e)⟩, h'.keep.trans h2 (fun b hb e => by have := hge _ e; omega), h.mlt, fun x hx => ?_, h.len⟩
  · rcases h3 with h3 | h3
    · exact .inl h3.symm
    · right; rw [← h3]; rfl
  · rw [show (ord ++ [u]).length = n + 1 by simp [hn], List.map_append]
    refine owns_lift h1 (fun g' hg' => ?_)
    cases hg'
    show w0.heap.size + 1 ≤ g
    rcases h3 with h3 | h3
    · exact hge _ h3
    · have := h.keep.size; have := h.dat.low.2; rw [h3, World.size_alloc]; omega
  · rcases List.mem_append.1 hx with hx | hx
    · exact h.mem x hx
    · have : x = u := by simpa using hx
      rw [this]; exact hu
end
theorem NRow.node {w : World} {a : Option Addr} {n cap g : Nat} {l : List Int} (h : NRow w (.slice a n cap) g (l.map nodeV)) : n = l.length ∧ ∀ t u, l[t]? = some u → ∃ off, a = some ⟨g, off, none⟩ ∧ w.cell? ⟨g, off + t, none⟩ = some (nodeV u) := by
  rcases h with ⟨h, h2⟩ | ⟨off, cap, h1, h2, _⟩
  · cases h
    have : l = [] := by simpa using h2
    subst this
    exact ⟨rfl, fun t u hu => by simp at hu⟩
  · cases h1
    refine ⟨by simp, fun t u hu => ⟨off, rfl, h2 t (nodeV u) (by rw [List.getElem?_map, hu]; rfl)⟩⟩
theorem NRow.of_owns {w : World} {B n : Nat} {v : Value} {l : List Int} (h : w.ownsRow B 66 1 v n (l.map nodeV)) (h0 : 0 < n) : ∃ g, NRow w v g (l.map nodeV) ∧ B ≤ g := by
  have hl : (l.map nodeV).length = n := by simpa using h.1
  obtain ⟨_, ⟨_, h0'⟩ | ⟨g, cap, cur, hv, hb, hh, h1, h2, h3, h4⟩⟩ := h
  · omega
  · rw [Nat.mul_one] at h4
    refine ⟨g, .inr ⟨0, cap, by rw [hv, hl], fun j u hu => ?_, by omega, h2, lt_of_get hh, fun i => free_of hh i⟩, hb⟩
    rw [Nat.zero_add, cell_of hh]
    rw [← h4, List.getElem?_take] at hu
    split at hu
    · simpa using hu
    · cases hu
theorem DS.last {G : PG} {w0 wv : World} {mb M : Nat} {C : PC} {D : List (List Int)} {cs : Array Value} {lv sv : Value} {ord : List Int} {k : Nat} (h : DS G w0 mb M wv C D cs lv sv ord k) {j : Nat} {l : List Int} {v : Int} (hl : D[j]? = some (l ++ [v])) :
    ∃ g cap, cs[j]? = some (.slice (some ⟨g, 0, none⟩) (l.length + 1) cap) ∧ wv.cell? ⟨w0.heap.size, j, none⟩ = some (.slice (some ⟨g, 0, none⟩) (l.length + 1) cap) ∧ wv.cell? ⟨g, l.length, none⟩ = some (nodeV v) ∧ l.length < cap ∧ g ≠ w0.heap.size := by
  obtain ⟨a, cap, h1, h2, h3⟩ := h.dat.at_ hl
  obtain ⟨g, cap', e, hb, _, _⟩ := owns_form h3 (by simp)
  cases e
  have hlen : (l ++ [v]).length = l.length + 1 := by simp
  have hc := h3.cells (g := g) rfl l.length (nodeV v) (by simp)
  rw [Addr.add_lit, Nat.zero_add] at hc
  rw [hlen] at h1 h2 h3
  refine ⟨g, cap, h1, h2, hc, ?_, by omega⟩
  rcases h3.2 with ⟨e, _⟩ | ⟨g', cap', cur, e, _, _, hle, _⟩
  · cases e
  · cases e; omega
theorem infoInt' : (Tryz.prog.info? 3).map (fun i => (i.zero, i.size, i.bytes)) = some (some (.int .i64 0), 1, 8) := by kernel_rfl
theorem dinv_row_mem {ids : List Int} {N : Int → List Int} {C : PC} {D : List (List Int)} {p : List Int} (h : DInv ids N C D p) {j : Nat} {l : List Int} (hl : D[j]? = some l) : ∀ u ∈ l, u ∈ ids := fun u hu => h.sub u (by rw [(h.at' u j).2 ⟨l, hl, hu⟩]; rfl)
theorem dinv_row_le {ids : List Int} {N : Int → List Int} {C : PC} {D : List (List Int)} {p : List Int} (h : DInv ids N C D p) {j : Nat} {l : List Int} (hl : D[j]? = some l) : l.length ≤ ids.length := nodup_le (h.nd j l hl) (dinv_row_mem h hl)
theorem DS.scell {G : PG} {w0 wv : World} {mb M : Nat} {C : PC} {D : List (List Int)} {cs : Array Value} {lv : Value} {ord : List Int} {k sg n cap : Nat} (h : DS G w0 mb M wv C D cs lv (.slice (some ⟨sg, 0, none⟩) n cap) ord k) :
    (∀ i, wv.frozen? ⟨sg, i, none⟩ = false) ∧ ∀ i, i < k + 1 → ∃ x : Int, wv.cell? ⟨sg, i, none⟩ = some (.int .i64 x) := by
  obtain ⟨g, c, e, h1, h2⟩ := h.cells
  cases e
  exact ⟨h1, h2⟩
theorem zeroSN (w : World) : (zeroValue 61).run Tryz.prog w = .ok (.slice none 0 0) w := by kernel_rfl
theorem nbo_symm {G : PG} (h : UG G) : ∀ a ∈ G.ids, ∀ b ∈ G.ids, a ∈ nbo G b → b ∈ nbo G a := fun a ha b hb hab => by
  obtain ⟨ho, hs, _⟩ := h
  exact (nbo_mem ho ha b).2 (hs _ _ ((nbo_mem ho hb a).1 hab))
theorem cput_len {C : PC} {u : Int} {c x : Nat} (h : cget C u = some c) : (cput C u x).length = C.length := by
  unfold cput
  rw [if_pos, List.length_map]
  unfold cget at h
  obtain ⟨p, hp, _⟩ := Option.map_eq_some_iff.1 h
  have hp2 : (fun p : Int × Nat => p.1 == u) p = true := List.find?_some (p := fun p : Int × Nat => p.1 == u) hp
  exact List.any_eq_true.2 ⟨p, List.mem_of_find?_eq_some hp, hp2⟩
theorem cdel_len {C : PC} (hn : (C.map (·.1)).Nodup) {u : Int} {c : Nat} (h : cget C u = some c) : (cdel C u).length + 1 = C.length := by
  have hm := (cget_mem hn).1 h
  clear h
  induction C with
  | nil => cases hm
  | cons p C ih =>
    rw [List.map_cons, List.nodup_cons] at hn
    unfold cdel
    rw [List.filter_cons]
    rcases List.mem_cons.1 hm with e | hm
    · subst e
      have hnot : ∀ q ∈ C, (!(q.1 == u)) = true := fun q hq => by
        have : q.1 ≠ u := fun e => hn.1 (List.mem_map.2 ⟨q, hq, e⟩)
        simpa using this
      simp [List.filter_eq_self.2 hnot]
    · have hne : p.1 ≠ u := fun e => hn.1 (List.mem_map.2 ⟨(u, c), hm, e.symm⟩)
      have hb : (!(p.1 == u)) = true := by simpa using hne
      rw [if_pos hb, List.length_cons, List.length_cons]
      have := ih hn.2 hm
      unfold cdel at this
      omega
theorem drop_cons' {l : List Int} {t : Nat} {u : Int} (h : l[t]? = some u) : l.drop t = u :: l.drop (t + 1) := by
  obtain ⟨h1, rfl⟩ := List.getElem?_eq_some_iff.1 h
  exact List.drop_eq_getElem_cons h1
theorem DS.row {G : PG} {w0 wv : World} {mb M : Nat} {C : PC} {D : List (List Int)} {cs : Array Value} {lv sv : Value} {ord : List Int} {k : Nat} (h : DS G w0 mb M wv C D cs lv sv ord k) {j n : Nat} {l : List Int} (hl : D[j]? = some l) (hn : l.length = n + 1) :
    ∃ g cap, cs[j]? = some (.slice (some ⟨g, 0, none⟩) (n + 1) cap) ∧ wv.cell? ⟨w0.heap.size, j, none⟩ = some (.slice (some ⟨g, 0, none⟩) (n + 1) cap) ∧ (∀ y u, l[y]? = some u → wv.cell? ⟨g, y, none⟩ = some (nodeV u)) ∧ (∀ i, wv.frozen? ⟨g, i, none⟩ = false) ∧ n + 1 ≤ cap ∧ g ≠ w0.heap.size := by
  obtain ⟨a, cap, h1, h2, h3⟩ := h.dat.at_ hl
  rw [hn] at h1 h2 h3
  obtain ⟨g, cap', e, hb, _, hf⟩ := owns_form h3 (by omega)
  cases e
  refine ⟨g, cap, h1, h2, fun y u hu => ?_, hf, ?_, by omega⟩
  · have hc := h3.cells (g := g) rfl y (nodeV u) (by rw [List.getElem?_map, hu]; rfl)
    rwa [Addr.add_lit, Nat.zero_add] at hc
  · rcases h3.2 with ⟨e, _⟩ | ⟨g', cap', cur, e, _, _, hle, _⟩
    · cases e
    · cases e; omega
end Go.Proofs.YtdaccgelmcmfjaaGreatDoor
