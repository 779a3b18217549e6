/- The neighbours of a node of a read graph, as a list of numbers (plain laws). -/
import Derived.Test.YtdaccgelmcmfjaaGreatDoorM9
import Derived.Test.YtdaccgelmcmfjaaGreatDoorJV0
import Derived.Test.YtdaccgelmcmfjaaGreatDoorJV4
import Derived.Deep.LoopGhost
import Derived.Carry
import Derived.Maps.RangeWalk
set_option linter.all false
section
namespace Go.Proofs.YtdaccgelmcmfjaaGreatDoor
open Go.RowKit Go.V
theorem PG.Ok.row {G : PG} (h : G.Ok) {i : Nat} {u : Int} (hi : G.ids[i]? = some u) : ∃ l, G.out[i]? = some l ∧ Asc l ∧ (∀ a ∈ l, a.1 < G.ids.length) ∧ G.nbr i = G.ends l := by
  have hl := (List.getElem?_eq_some_iff.1 hi).1
  have hio : i < G.out.length := by rw [h.len]; exact hl
  have ho := List.getElem?_eq_getElem hio
  have hr := h.rows _ (List.mem_of_getElem? ho)
  exact ⟨_, ho, hr.1, hr.2, by unfold PG.nbr; rw [List.getD_eq_getElem?_getD, ho]; rfl⟩
theorem PG.Ok.getD {G : PG} (_h : G.Ok) {i : Nat} (hi : i < G.ids.length) : G.ids[i]? = some (G.ids.getD i 0) := by
  rw [List.getD_eq_getElem?_getD, List.getElem?_eq_getElem hi]; rfl
theorem PG.Ok.lt {G : PG} (h : G.Ok) {i j : Nat} {x y : Int} (hi : G.ids[i]? = some x) (hj : G.ids[j]? = some y) (hij : i < j) : x < y := by
  obtain ⟨h1, rfl⟩ := List.getElem?_eq_some_iff.1 hi
  obtain ⟨h2, rfl⟩ := List.getElem?_eq_some_iff.1 hj
  exact List.pairwise_iff_getElem.1 h.asc i j h1 h2 hij
theorem PG.mem_nbr {G : PG} (h : G.Ok) {i : Nat} {u : Int} (hi : G.ids[i]? = some u) (v : Int) : v ∈ G.nbr i ↔ G.adj u v := by
  obtain ⟨l, hl, ha, hr, hn⟩ := h.row hi
  rw [hn]
  unfold PG.ends
  constructor
  · intro hv
    obtain ⟨a, ha', rfl⟩ := List.mem_map.1 hv
    exact ⟨i, a.1, l, hi, h.getD (hr a ha'), hl, List.mem_map_of_mem ha'⟩
  · rintro ⟨i', j, l', h1, h2, h3, h4⟩
    obtain rfl := h.inj h1 hi
    rw [hl] at h3; cases h3
    obtain ⟨a, ha', rfl⟩ := List.mem_map.1 h4
    refine List.mem_map.2 ⟨a, ha', ?_⟩
    rw [List.getD_eq_getElem?_getD, h2]; rfl
theorem PG.nbr_asc {G : PG} (h : G.Ok) {i : Nat} {u : Int} (hi : G.ids[i]? = some u) : (G.nbr i).Pairwise (· < ·) := by
  obtain ⟨l, hl, ha, hr, hn⟩ := h.row hi
  rw [hn]
  unfold PG.ends
  rw [List.pairwise_map]
  refine ha.imp_of_mem fun {a b} ha' hb' hab => ?_
  exact h.lt (h.getD (hr a ha')) (h.getD (hr b hb')) hab
theorem PG.nbr_nodup {G : PG} (h : G.Ok) {i : Nat} {u : Int} (hi : G.ids[i]? = some u) : (G.nbr i).Nodup := (PG.nbr_asc h hi).imp (fun {a b} h => by omega)
theorem PG.ids_nodup {G : PG} (h : G.Ok) : G.ids.Nodup := h.asc.imp (fun {a b} h => by omega)
theorem PG.adj_mem {G : PG} {u v : Int} (h : G.adj u v) : u ∈ G.ids ∧ v ∈ G.ids := by
  obtain ⟨i, j, l, h1, h2, _⟩ := h
  exact ⟨List.mem_of_getElem? h1, List.mem_of_getElem? h2⟩
theorem PG.nbr_length {G : PG} (h : G.Ok) {i : Nat} {u : Int} (hi : G.ids[i]? = some u) : (G.nbr i).length ≤ G.ids.length := by
  obtain ⟨l, hl, ha, hr, hn⟩ := h.row hi
  rw [hn]; unfold PG.ends; rw [List.length_map]; exact asc_length ha hr
structure UG (G : PG) : Prop where
  ok : G.Ok
  sym : ∀ u v, G.adj u v → G.adj v u
  irr : ∀ u, ¬ G.adj u u
structure Clique (G : PG) (l : List Int) : Prop where
  nodup : l.Nodup
  mem : ∀ u ∈ l, u ∈ G.ids
  adj : ∀ u ∈ l, ∀ v ∈ l, u ≠ v → G.adj u v
theorem Clique.one {G : PG} {u : Int} (h : u ∈ G.ids) : Clique G [u] :=
  ⟨by simp, fun v hv => by simp at hv; rw [hv]; exact h, fun a ha b hb hab => by simp at ha hb; exact absurd (ha.trans hb.symm) hab⟩
theorem Clique.snoc {G : PG} (hG : UG G) {l : List Int} {v : Int} (h : Clique G l) (hv : v ∈ G.ids) (ha : ∀ u ∈ l, G.adj u v) : Clique G (l ++ [v]) := by
  refine ⟨?_, fun u hu => ?_, fun a haa b hb hab => ?_⟩
  · rw [List.nodup_append]
    exact ⟨h.nodup, by simp, fun a haa b hb => by simp at hb; rintro rfl; exact hG.irr a (hb ▸ ha a haa)⟩
  · rcases List.mem_append.1 hu with h1 | h1
    · exact h.mem u h1
    · simp at h1; rw [h1]; exact hv
  · rcases List.mem_append.1 haa with h1 | h1 <;> rcases List.mem_append.1 hb with h2 | h2
    · exact h.adj a h1 b h2 hab
    · simp at h2; rw [h2]; exact ha a h1
    · simp at h1; rw [h1]; exact hG.sym _ _ (ha b h2)
    · simp at h1 h2; exact absurd (h1.trans h2.symm) hab
theorem Clique.length {G : PG} (hG : UG G) {l : List Int} (h : Clique G l) : l.length ≤ G.ids.length := by
  have := Colorable.clique (ids := G.ids) (adj := fun u v => u ≠ v) (m := G.ids.length) ⟨fun u => G.ids.idxOf u, fun u hu => List.idxOf_lt_length_iff.2 hu, fun u hu v hv huv he => huv (idxOf_inj hu hv he)⟩ l h.nodup h.mem (fun u _ v _ huv => huv)
  exact this
end Go.Proofs.YtdaccgelmcmfjaaGreatDoor
end
/- Nodes' numbers; the slice of an iterator's nodes (NodeSlice, NodesOf). -/
section
namespace Go.Proofs.YtdaccgelmcmfjaaGreatDoor
open Go.RowKit Go.V
theorem ID_spec (id : Int) (w : World) : Calls Tryz.prog 300 #[.int .i64 id] w fun e w' => e = .returned (.int .i64 id) ∧ w' = w := by
  go_enter Tryz.func300, Tryz.ntmps300
  go_wp2
  go_ret
  exact ⟨rfl, rfl⟩
theorem number_spec (id : Int) (w : World) : Calls Tryz.prog 41 #[nodeV id] w fun e w' => e = .returned (.int .i64 id) ∧ w' = w := by
  go_enter Tryz.func41, Tryz.ntmps41
  go_wp2_with (first | (((with_reducible refine (ID_spec _ _).mono ?_); rintro e w1 ⟨rfl, rfl⟩)))
  go_ret
  exact ⟨rfl, rfl⟩
def NRow (w : World) (v : Value) (g : Nat) (xs : List Value) : Prop :=
  (v = .slice none 0 0 ∧ xs = []) ∨ ∃ off cap, v = .slice (some ⟨g, off, none⟩) xs.length cap ∧ Cells w g off xs ∧ xs.length ≤ cap ∧ cap ≤ maxLen ∧ Free w g
theorem NRow.keep {w w' : World} {v : Value} {g : Nat} {xs : List Value} {S : Nat → Prop} (h : NRow w v g xs) (hk : Keep S w w') (hn : ¬ S g) : NRow w' v g xs := by
  rcases h with h | ⟨off, cap, h1, h2, h3, h4, h5⟩
  · exact .inl h
  · exact .inr ⟨off, cap, h1, h2.keep hk hn, h3, h4, h5.keep hk hn⟩
theorem NRow.row {w : World} {v : Value} {g : Nat} {xs : List Value} (h : NRow w v g xs) : Row w.heap.size w v xs := by
  rcases h with h | ⟨off, cap, h1, h2, h3, h4, h5⟩
  · exact .inl h
  · exact .inr ⟨g, off, cap, h1, h5.1, h2, h3, h4⟩
theorem NRow.slice {w : World} {v : Value} {g : Nat} {xs : List Value} (h : NRow w v g xs) : ∃ a cap, v = .slice a xs.length cap := by
  rcases h with ⟨rfl, rfl⟩ | ⟨off, cap, h1, _⟩
  · exact ⟨_, _, rfl⟩
  · exact ⟨_, _, h1⟩
/-! ### An iterator over numbers -/
theorem Next_true {w : World} {it g : Nat} {l : List Int} {k : Nat} (h : Iter w it g (l.map nodeV) k) (hk : k < l.length) :
    Calls Tryz.prog 283 #[.pointer (some ⟨it, 0, none⟩)] w fun e w' => e = .returned (.bool true) ∧ Iter w' it g (l.map nodeV) (k + 1) ∧ Keep (fun b => b = it) w w' ∧ w'.heap.size = w.heap.size := by
  have := Next_spec h (by rw [List.length_map]; omega)
  rwa [show decide (k < (l.map nodeV).length) = true by rw [List.length_map]; simpa using hk] at this
theorem Next_false {w : World} {it g : Nat} {l : List Int} (h : Iter w it g (l.map nodeV) l.length) :
    Calls Tryz.prog 283 #[.pointer (some ⟨it, 0, none⟩)] w fun e w' => e = .returned (.bool false) ∧ Keep (fun b => b = it) w w' ∧ w'.heap.size = w.heap.size := by
  have := Next_spec h (by rw [List.length_map]; exact Nat.le_refl _)
  rw [show decide (l.length < (l.map nodeV).length) = false by rw [List.length_map]; simp] at this
  exact this.mono (by rintro e w' ⟨h1, _, h2, h3⟩; exact ⟨h1, h2, h3⟩)
theorem Node_at {w : World} {it g : Nat} {l : List Int} {k : Nat} (h : Iter w it g (l.map nodeV) (k + 1)) {u : Int} (hu : l[k]? = some u) :
    Calls Tryz.prog 284 #[.pointer (some ⟨it, 0, none⟩)] w fun e w' => e = .returned (nodeV u) ∧ ∃ n, w' = w.drewN n := Node_spec h (by rw [List.getElem?_map, hu]; rfl)
set_option maxRecDepth 20000 in
theorem NodeSlice_spec {w : World} {it g : Nat} {xs : List Value} (h : Iter w it g xs 0) (hx : 0 < xs.length) :
    Calls Tryz.prog 285 #[.pointer (some ⟨it, 0, none⟩)] w fun e w' => ∃ v, e = .returned v ∧ NRow w' v g xs ∧ Keep (fun b => b = it) w w' ∧ w'.heap.size = w.heap.size := by
  obtain ⟨off, cap, hh, hc, hne, hl, hm, hg⟩ := h
  have hfin : ∀ W : World, W.heap = (w.setCell ⟨it, 0, none⟩ (.int .i64 (xs.length : Int))).heap → W.os = w.os → W.tape = w.tape → W.output = w.output →
      ∃ v, Ending.returned (.slice (some ⟨g, off, none⟩) xs.length cap) = .returned v ∧ NRow W v g xs ∧ Keep (fun b => b = it) w W ∧ W.heap.size = w.heap.size := by
    intro W e1 e2 e3 e4
    have hK : Keep (fun b => b = it) w W := by
      have := (Keep.refl (fun b => b = it) w).setCell (a := ⟨it, 0, none⟩) (.int .i64 (xs.length : Int)) (fun _ => rfl)
      exact ⟨e2, e3, e4, by rw [e1]; exact this.size, fun b hb hn => by rw [e1]; exact this.block b hb hn⟩
    exact ⟨_, rfl, .inr ⟨off, cap, rfl, hc.keep hK hne, hl, hm, hg.keep hK hne⟩, hK, by rw [e1]; simp⟩
  generalize hn : xs.length = n at *
  have HN := Lib.hid hn; clear hn
  have hm' := hm; unfold maxLen at hm'
  have c0 := cell_of hh 0
  have c1 := cell_of hh 1
  have f0 := free_of hh 0
  simp only [List.getElem?_toArray, List.getElem?_cons_zero, List.getElem?_cons_succ] at c0 c1
  clear hh hc
  have HF := Lib.hid hfin; clear hfin
  have d1 : decide ((n : Int) ≤ -1) = false := by simp; omega
  have e1 : (0 : Int) ≤ (n : Int) := by omega
  go_enter Tryz.func285, Tryz.ntmps285
  go_wp2
  go_quiet (fail)
  go_wp2
  go_ret
  exact HF.out _ rfl rfl rfl rfl
theorem taSlicer (a : Addr) (w : World) : (Instr.typeAssert (.iface 284 (.pointer (some a))) 89 223 true).run Tryz.prog w = .ok (.tuple #[.iface 284 (.pointer (some a)), .bool true]) w := by kernel_rfl
set_option maxRecDepth 20000 in
theorem NodesOf_spec {w : World} {it g : Nat} {xs : List Value} (h : Iter w it g xs 0) :
    Calls Tryz.prog 94 #[.iface 284 (.pointer (some ⟨it, 0, none⟩))] w fun e w' => ∃ v, e = .returned v ∧ NRow w' v g xs ∧ Keep (fun b => b = it) w w' ∧ w'.heap.size = w.heap.size := by
  have hL := Len_spec h (Nat.zero_le _)
  rw [Nat.sub_zero] at hL
  have HL := Lib.hid hL
  have hS := fun h0 n => NodeSlice_spec (h.keep ((Keep.refl (fun _ => False) w).drewN n) (fun h => h) (fun h => h)) h0
  have hnil : xs.length = 0 → ∀ n, NRow (w.drewN n) (.slice none 0 0) g xs := fun h0 n => .inl ⟨rfl, List.length_eq_zero_iff.1 h0⟩
  have HS := Lib.hid hS
  have HN := Lib.hid hnil
  clear hL hS hnil h
  generalize hn : xs.length = n at *
  clear hn
  by_cases h0 : n = 0
  · subst h0
    go_enter Tryz.func94, Tryz.ntmps94
    go_wp2_with (first | (((with_reducible refine (HL.out).mono ?_); rintro e w1 ⟨rfl, q, rfl⟩)))
    go_ret
    exact ⟨_, rfl, HN.out (by trivial) q, (Keep.refl _ _).drewN q, rfl⟩
  · have hta := taSlicer
    have d1 : ((n : Int) == 0) = false := by simpa using h0
    have d2 : ¬ (n : Int) < 0 := by omega
    go_enter Tryz.func94, Tryz.ntmps94
    go_wp2_with (first | (((with_reducible refine (HL.out).mono ?_); rintro e w1 ⟨rfl, q, rfl⟩)) | (((with_reducible refine (HS.out (by omega) q).mono ?_); rintro e w1 ⟨v, rfl, q1, q2, q3⟩)))
    go_ret
    exact ⟨_, rfl, q1, Keep.trans ((Keep.refl _ _).drewN q) q2 (fun _ _ h => h), q3⟩
end Go.Proofs.YtdaccgelmcmfjaaGreatDoor
end
/- Sets of nodes (maps from a node's number to the node): Has, Add, Remove, IntersectionOfNodes. -/
section
namespace Go.Proofs.YtdaccgelmcmfjaaGreatDoor
open Go.RowKit Go.V
abbrev nkv (ks : List Int) : KV := ks.map fun k => (k, nodeV k)
def NSet (w : World) (m : Nat) (ks : List Int) : Prop := MapAt w m (nkv ks)
theorem kget_nkv (ks : List Int) (k : Int) : kget (nkv ks) k = if ks.contains k then some (nodeV k) else none := by
  unfold kget nkv
  induction ks with
  | nil => rfl
  | cons x ks ih =>
    rw [List.map_cons, List.find?_cons]
    by_cases h : x = k
    · subst h; simp
    · have h1 : (x == k) = false := by simpa using h
      have h2 : (k == x) = false := by simpa using fun e => h e.symm
      simp only [h1, List.contains_cons, h2, Bool.false_or]
      exact ih
theorem kput_nkv (ks : List Int) (k : Int) : kput (nkv ks) k (nodeV k) = nkv (sadd ks k) := by
  unfold kput sadd nkv
  have e : (ks.map fun k => (k, nodeV k)).any (fun p => p.1 == k) = ks.contains k := by
    rw [List.any_map]
    induction ks with
    | nil => rfl
    | cons x ks ih =>
      rw [List.any_cons, List.contains_cons, ← ih]
      congr 1
      show (x == k) = (k == x)
      exact BEq.comm
  rw [e]
  by_cases hc : ks.contains k = true
  · rw [if_pos hc, if_pos hc, List.map_map]
    apply List.map_congr_left
    intro x _
    show (if x == k then (k, nodeV k) else (x, nodeV x)) = (x, nodeV x)
    split
    · rename_i h; have : x = k := by simpa using h
      rw [this]
    · rfl
  · rw [if_neg hc, if_neg hc]; simp
theorem kdel_nkv (ks : List Int) (k : Int) : kdel (nkv ks) k = nkv (sdel ks k) := by
  unfold kdel sdel nkv
  rw [List.filter_map]
  rfl
theorem NSet.made (w : World) : NSet (w.alloc (.map #[] 0)) w.heap.size [] := MapAt.made w
theorem NSet.keep {w w' : World} {m : Nat} {ks : List Int} {S : Nat → Prop} (h : NSet w m ks) (hk : Keep S w w') (hn : ¬ S m) : NSet w' m ks := MapAt.keep h hk hn
theorem NSet.keepF {w w' : World} {m : Nat} {ks : List Int} (h : NSet w m ks) (hk : Keep (fun _ => False) w w') : NSet w' m ks := h.keep hk (fun h => h)
theorem NSet.lt {w : World} {m : Nat} {ks : List Int} (h : NSet w m ks) : m < w.heap.size := MapAt.lt h
theorem NSet.nodup {w : World} {m : Nat} {ks : List Int} (h : NSet w m ks) : ks.Nodup := by
  have := MapAt.nodup h
  rwa [List.map_map, show ((fun p : Int × Value => p.1) ∘ fun k => (k, nodeV k)) = id from rfl, List.map_id] at this
theorem mem_sadd {ks : List Int} {k x : Int} : x ∈ sadd ks k ↔ x ∈ ks ∨ x = k := by
  unfold sadd
  split
  · rename_i h
    have h : k ∈ ks := by simpa using h
    constructor
    · exact .inl
    · rintro (h' | rfl)
      · exact h'
      · exact h
  · simp
theorem mem_sdel {ks : List Int} {k x : Int} : x ∈ sdel ks k ↔ x ∈ ks ∧ x ≠ k := by
  unfold sdel; simp [List.mem_filter]
theorem sdel_length {ks : List Int} {k : Int} (h : k ∈ ks) : (sdel ks k).length < ks.length := by
  unfold sdel
  exact List.length_filter_lt_length_iff_exists.2 ⟨k, h, by simp⟩
theorem sadd_new {ks : List Int} {k : Int} (h : k ∉ ks) : sadd ks k = ks ++ [k] := by
  unfold sadd; rw [if_neg (by simpa using h)]
theorem zeroNode (w : World) : (zeroValue 66).run Tryz.prog w = .ok .nilIface w := by kernel_rfl
theorem NHas_spec {w : World} {m : Nat} {ks : List Int} (h : NSet w m ks) (k : Int) :
    Calls Tryz.prog 176 #[.map (some m), nodeV k] w fun e w' => e = .returned (.bool (ks.contains k)) ∧ Keep (fun _ => False) w w' := by
  have hg := kget_nkv ks k
  cases hb : ks.contains k
  all_goals
    rw [hb] at hg
    clear hb
    have HG := Lib.hid hg
    clear hg
    go_enter Tryz.func176, Tryz.ntmps176
    go_wp2_with (first | (((with_reducible refine (ID_spec _ _).mono ?_); rintro e w1 ⟨rfl, rfl⟩)) | (at_lookup; refine wpList_lookup_kv rfl _ _ _ _ rfl 2 66 Tryz.underlying229 Tryz.underlying2 .nilIface zeroNode m _ k rfl rfl h ?_; rw [HG.out]))
    go_ret
    exact ⟨rfl, (by repeat first | exact Keep.refl _ _ | assumption | apply Keep.alloc | apply Keep.drewN | apply Keep.drew | (refine Keep.setCell ?_ _ (fun h => absurd h (Nat.lt_irrefl _))))⟩
theorem NAdd_spec {w : World} {m : Nat} {ks : List Int} (h : NSet w m ks) (k : Int) :
    Calls Tryz.prog 135 #[.map (some m), nodeV k] w fun e w' => e = .returned (.tuple #[]) ∧ NSet w' m (sadd ks k) ∧ Keep (fun b => b = m) w w' ∧ w'.heap.size = w.heap.size := by
  go_enter Tryz.func135, Tryz.ntmps135
  go_wp2_with (first | (((with_reducible refine (ID_spec _ _).mono ?_); rintro e w1 ⟨rfl, rfl⟩)) | (at_mapUpdate; refine wpList_update_kv rfl _ _ _ _ rfl 2 66 Tryz.underlying229 Tryz.underlying2 m _ k (nodeV k) rfl rfl rfl h ?_; intro w1 h1 h2 h3))
  go_end0
  exact ⟨rfl, by unfold NSet; rw [← kput_nkv]; exact h1, h2, h3⟩
theorem NRem_spec {w : World} {m : Nat} {ks : List Int} (h : NSet w m ks) (k : Int) :
    Calls Tryz.prog 141 #[.map (some m), nodeV k] w fun e w' => e = .returned (.tuple #[]) ∧ NSet w' m (sdel ks k) ∧ (∀ r rest, Rng w r m (nkv ks) (nkv rest) → Rng w' r m (nkv (sdel ks k)) (nkv (sdel rest k))) ∧ Keep (fun b => b = m) w w' ∧ w'.heap.size = w.heap.size := by
  go_enter Tryz.func141, Tryz.ntmps141
  go_wp2_with (first | (((with_reducible refine (ID_spec _ _).mono ?_); rintro e w1 ⟨rfl, rfl⟩)) | (at_delete; refine wpList_delete_kv rfl _ _ _ _ rfl 2 66 Tryz.underlying229 Tryz.underlying2 m _ k rfl rfl h ?_; intro w1 h1 h4 h2 h3))
  go_end0
  exact ⟨rfl, by unfold NSet; rw [← kdel_nkv]; exact h1, fun r rest hr => by rw [← kdel_nkv, ← kdel_nkv]; exact h4 _ _ hr, h2, h3⟩
theorem run_makeMapN {P : Program} {T K E : TypeId} (hT : P.underlying T = some (.map K E)) (k : IntKind) (n : Int) (w : World) : (Instr.makeMap T (some (.int k n))).run P w = .ok (.map (some w.heap.size)) (w.alloc (.map #[] 0)) := by
  unfold Instr.makeMap
  simp [underlying, program, Sem.run_bind, Sem.run, hT, asInt, newObj]
  rfl
theorem NewNodes_spec (w : World) : Calls Tryz.prog 136 #[] w fun e w' => e = .returned (.map (some w.heap.size)) ∧ w' = w.alloc (.map #[] 0) := by
  have hmm := @run_makeMap Tryz.prog
  go_enter Tryz.func136, Tryz.ntmps136
  go_wp2
  go_ret
  exact ⟨rfl, rfl⟩
theorem NewNodesSize_spec (n : Nat) (w : World) : Calls Tryz.prog 134 #[.int .i64 (n : Int)] w fun e w' => e = .returned (.map (some w.heap.size)) ∧ w' = w.alloc (.map #[] 0) := by
  have hmm := @run_makeMapN Tryz.prog _ _ _ Tryz.underlying229
  go_enter Tryz.func134, Tryz.ntmps134
  go_wp2
  go_ret
  exact ⟨rfl, rfl⟩
theorem same_spec (a b : Value) (w : World) : Calls Tryz.prog 177 #[a, b] w fun e w' => e = .returned (.bool false) ∧ w' = w := by
  go_enter Tryz.func177, Tryz.ntmps177
  go_wp2
  go_ret
  exact ⟨rfl, rfl⟩
end Go.Proofs.YtdaccgelmcmfjaaGreatDoor
end
/- IntersectionOfNodes. -/
section
namespace Go.Proofs.YtdaccgelmcmfjaaGreatDoor
open Go.RowKit Go.V
theorem mem_nkv {ks : List Int} {k : Int} {v : Value} (h : (k, v) ∈ nkv ks) : k ∈ ks ∧ v = nodeV k := by
  obtain ⟨x, hx, e⟩ := List.mem_map.1 h
  cases e; exact ⟨hx, rfl⟩
theorem nkv_sub {R C : List Int} (h : (nkv R).Sublist (nkv C)) : R.Sublist C := by
  have := h.map (·.1)
  rwa [List.map_map, List.map_map, show ((fun p : Int × Value => p.1) ∘ fun k => (k, nodeV k)) = id from rfl, List.map_id, List.map_id] at this
def InterPost (w : World) (P X : List Int) (e : Ending) (w' : World) : Prop :=
  ∃ m ks, e = .returned (.map (some m)) ∧ w.heap.size ≤ m ∧ NSet w' m ks ∧ (∀ x, x ∈ ks ↔ x ∈ P ∧ x ∈ X) ∧ Keep (fun _ => False) w w'
def Met2 (P X R D : List Int) : Prop := ∀ x, x ∈ D ↔ x ∈ P ∧ x ∉ R ∧ x ∈ X
theorem Met2.start (P X : List Int) : Met2 P X P [] := fun x => by
  constructor
  · intro h; cases h
  · rintro ⟨h1, h2, _⟩; exact absurd h1 h2
theorem Met2.add {P X R D : List Int} (h : Met2 P X R D) {k : Int} (hk : k ∈ P) (hx : k ∈ X) : Met2 P X (sdel R k) (sadd D k) := fun x => by
  rw [mem_sadd, mem_sdel, h x]
  constructor
  · rintro (⟨h1, h2, h3⟩ | rfl)
    · exact ⟨h1, fun h => h2 h.1, h3⟩
    · exact ⟨hk, fun h => h.2 rfl, hx⟩
  · rintro ⟨h1, h2, h3⟩
    by_cases e : x = k
    · exact .inr e
    · exact .inl ⟨h1, fun h => h2 ⟨h, e⟩, h3⟩
theorem Met2.skip {P X R D : List Int} (h : Met2 P X R D) {k : Int} (hx : k ∉ X) : Met2 P X (sdel R k) D := fun x => by
  rw [mem_sdel, h x]
  constructor
  · rintro ⟨h1, h2, h3⟩; exact ⟨h1, fun h => h2 h.1, h3⟩
  · rintro ⟨h1, h2, h3⟩
    by_cases e : x = k
    · subst e; exact absurd h3 hx
    · exact ⟨h1, fun h => h2 ⟨h, e⟩, h3⟩
set_option maxHeartbeats 4000000 in
set_option maxRecDepth 20000 in
theorem inter_spec {w : World} {a b : Nat} {P X : List Int} (ha : NSet w a P) (hb : NSet w b X) (hP : P.length ≤ 1000000) (hX : X.length ≤ 1000000) :
    Calls Tryz.prog 140 #[.map (some a), .map (some b)] w (InterPost w P X) := by
  have hmm := @run_makeMap Tryz.prog
  have hl1 : (nkv P).length = P.length := by simp
  have hl2 : (nkv X).length = X.length := by simp
  have HL1 := Lib.hid hl1
  have HL2 := Lib.hid hl2
  have HA := Lib.hid ha
  have HB := Lib.hid hb
  have l1 := ha.lt
  have l2 := hb.lt
  clear hl1 hl2 ha hb
  by_cases hlt : X.length < P.length
  · go_enter Tryz.func140, Tryz.ntmps140
    go_wp2_with (first
      | ((with_reducible refine (same_spec _ _ _).mono ?_); rintro e w1 ⟨rfl, hw⟩; rw [hw]; clear hw)
      | (at_len; refine wpList_len_kv rfl _ _ rfl 2 66 Tryz.underlying229 a _ rfl (HA.out.keepF (by repeat first | exact Keep.refl _ _ | assumption | apply Keep.alloc | apply Keep.drewN | apply Keep.drew | (refine Keep.setCell ?_ _ (fun h => absurd h (Nat.lt_irrefl _))))) ?_; rw [HL1.out])
      | (at_len; refine wpList_len_kv rfl _ _ rfl 2 66 Tryz.underlying229 b _ rfl (HB.out.keepF (by repeat first | exact Keep.refl _ _ | assumption | apply Keep.alloc | apply Keep.drewN | apply Keep.drew | (refine Keep.setCell ?_ _ (fun h => absurd h (Nat.lt_irrefl _))))) ?_; rw [HL2.out])
      | (at_range; refine wpList_range_kv rfl _ _ rfl 2 66 Tryz.underlying229 b _ rfl (HB.out.keepF (by repeat first | exact Keep.refl _ _ | assumption | apply Keep.alloc | apply Keep.drewN | apply Keep.drew | (refine Keep.setCell ?_ _ (fun h => absurd h (Nat.lt_irrefl _))))) ?_; intro w1 hr hk hs; have HR := Lib.hid hr; have HK := Lib.hid (Keep.trans ((Keep.refl (fun _ => False) w).alloc (.map #[] 0)) hk (fun _ _ h => h)); have HM := Lib.hid ((NSet.made w).keepF hk); clear hr hk hs; go_frame))
    simp only [World.size_alloc] at *
    go_loopg [] (X.length + 1) (fun gk wr => ∃ R D, R.length + 1 = gk ∧ Rng wr (w.heap.size + 1) b (nkv X) (nkv R) ∧ NSet wr w.heap.size D ∧ Met2 X P R D ∧ Keep (fun _ => False) w wr)
    case atStart => exact ⟨X, [], rfl, HR.out, HM.out, Met2.start X P, HK.out⟩
    case round =>
      obtain ⟨R, D, hgk, hr, hd, hcp, hk⟩ := hrel
      clear HR HM HK
      have HR := Lib.hid hr
      have HD := Lib.hid hd
      have HK := Lib.hid hk
      have HGK := Lib.hid hgk
      have HCP := Lib.hid hcp
      clear hr hd hk hgk hcp
      go_wp2_with (first
        | (at_next; refine wpList_next_ent rfl _ rfl (w.heap.size + 1) b _ _ rfl HR.out ?_ ?_; rotate_left; intro k v w2 hmem hr2 hk2 hs2 hent; obtain ⟨hkR, rfl⟩ := mem_nkv hmem; have hkX := (nkv_sub HR.out.sub).mem hkR; rw [kdel_nkv] at hr2; have HR2 := Lib.hid hr2; have HK2 := Lib.hid hk2; have HKR := Lib.hid hkR; have HKX := Lib.hid hkX; have HD2 := Lib.hid (HD.out.keep hk2 (by omega)); have HK2' := Lib.hid (HK.out.trans hk2 (fun b hb h => by omega)); clear hmem hr2 hk2 hs2 hkR hkX; by_cases hp : k ∈ P; have hg := kget_nkv P k; rw [if_pos (by simpa using hp)] at hg; have HG := Lib.hid hg; have HP := Lib.hid hp; clear hg hp; rotate_left; have hg := kget_nkv P k; rw [if_neg (by simpa using hp)] at hg; have HG := Lib.hid hg; have HP := Lib.hid hp; clear hg hp; rotate_left; intro hnil; have HNIL := Lib.hid hnil; clear hnil)
        | (at_lookup; refine wpList_lookup_kv rfl _ _ _ _ rfl 2 66 Tryz.underlying229 Tryz.underlying2 .nilIface zeroNode a _ k rfl rfl (HA.out.keepF HK2'.out) ?_; rw [HG.out])
        | (at_mapUpdate; refine wpList_update_kv rfl _ _ _ _ rfl 2 66 Tryz.underlying229 Tryz.underlying2 w.heap.size _ k (nodeV k) rfl rfl rfl HD2.out ?_; intro w3 h1 h2 h3; rw [kput_nkv] at h1; have H1 := Lib.hid h1; have HK3 := Lib.hid h2; clear h1 h2 h3))
      · go_ret
        have hR : R = [] := by simpa using HNIL.out
        subst hR
        exact ⟨_, D, rfl, Nat.le_refl _, HD.out, fun x => by rw [HCP.out x]; simp [and_comm], HK.out⟩
      · go_roundg ((sdel R k).length + 1)
        case measure => have := HGK.out; have := sdel_length HKR.out; omega
        case rel => exact ⟨sdel R k, _, rfl, Rng.keep HR2.out HK3.out (by omega) (by omega), H1.out, HCP.out.add HKX.out HP.out, HK2'.out.trans HK3.out (fun b hb h => by omega)⟩
      · go_roundg ((sdel R k).length + 1)
        case measure => have := HGK.out; have := sdel_length HKR.out; omega
        case rel => exact ⟨sdel R k, D, rfl, HR2.out, HD2.out, HCP.out.skip HP.out, HK2'.out⟩
  · go_enter Tryz.func140, Tryz.ntmps140
    go_wp2_with (first
      | ((with_reducible refine (same_spec _ _ _).mono ?_); rintro e w1 ⟨rfl, hw⟩; rw [hw]; clear hw)
      | (at_len; refine wpList_len_kv rfl _ _ rfl 2 66 Tryz.underlying229 a _ rfl (HA.out.keepF (by repeat first | exact Keep.refl _ _ | assumption | apply Keep.alloc | apply Keep.drewN | apply Keep.drew | (refine Keep.setCell ?_ _ (fun h => absurd h (Nat.lt_irrefl _))))) ?_; rw [HL1.out])
      | (at_len; refine wpList_len_kv rfl _ _ rfl 2 66 Tryz.underlying229 b _ rfl (HB.out.keepF (by repeat first | exact Keep.refl _ _ | assumption | apply Keep.alloc | apply Keep.drewN | apply Keep.drew | (refine Keep.setCell ?_ _ (fun h => absurd h (Nat.lt_irrefl _))))) ?_; rw [HL2.out])
      | (at_range; refine wpList_range_kv rfl _ _ rfl 2 66 Tryz.underlying229 a _ rfl (HA.out.keepF (by repeat first | exact Keep.refl _ _ | assumption | apply Keep.alloc | apply Keep.drewN | apply Keep.drew | (refine Keep.setCell ?_ _ (fun h => absurd h (Nat.lt_irrefl _))))) ?_; intro w1 hr hk hs; have HR := Lib.hid hr; have HK := Lib.hid (Keep.trans ((Keep.refl (fun _ => False) w).alloc (.map #[] 0)) hk (fun _ _ h => h)); have HM := Lib.hid ((NSet.made w).keepF hk); clear hr hk hs; go_frame))
    simp only [World.size_alloc] at *
    go_loopg [] (P.length + 1) (fun gk wr => ∃ R D, R.length + 1 = gk ∧ Rng wr (w.heap.size + 1) a (nkv P) (nkv R) ∧ NSet wr w.heap.size D ∧ Met2 P X R D ∧ Keep (fun _ => False) w wr)
    case atStart => exact ⟨P, [], rfl, HR.out, HM.out, Met2.start P X, HK.out⟩
    case round =>
      obtain ⟨R, D, hgk, hr, hd, hcp, hk⟩ := hrel
      clear HR HM HK
      have HR := Lib.hid hr
      have HD := Lib.hid hd
      have HK := Lib.hid hk
      have HGK := Lib.hid hgk
      have HCP := Lib.hid hcp
      clear hr hd hk hgk hcp
      go_wp2_with (first
        | (at_next; refine wpList_next_ent rfl _ rfl (w.heap.size + 1) a _ _ rfl HR.out ?_ ?_; rotate_left; intro k v w2 hmem hr2 hk2 hs2 hent; obtain ⟨hkR, rfl⟩ := mem_nkv hmem; have hkX := (nkv_sub HR.out.sub).mem hkR; rw [kdel_nkv] at hr2; have HR2 := Lib.hid hr2; have HK2 := Lib.hid hk2; have HKR := Lib.hid hkR; have HKX := Lib.hid hkX; have HD2 := Lib.hid (HD.out.keep hk2 (by omega)); have HK2' := Lib.hid (HK.out.trans hk2 (fun b hb h => by omega)); clear hmem hr2 hk2 hs2 hkR hkX; by_cases hp : k ∈ X; have hg := kget_nkv X k; rw [if_pos (by simpa using hp)] at hg; have HG := Lib.hid hg; have HP := Lib.hid hp; clear hg hp; rotate_left; have hg := kget_nkv X k; rw [if_neg (by simpa using hp)] at hg; have HG := Lib.hid hg; have HP := Lib.hid hp; clear hg hp; rotate_left; intro hnil; have HNIL := Lib.hid hnil; clear hnil)
        | (at_lookup; refine wpList_lookup_kv rfl _ _ _ _ rfl 2 66 Tryz.underlying229 Tryz.underlying2 .nilIface zeroNode b _ k rfl rfl (HB.out.keepF HK2'.out) ?_; rw [HG.out])
        | (at_mapUpdate; refine wpList_update_kv rfl _ _ _ _ rfl 2 66 Tryz.underlying229 Tryz.underlying2 w.heap.size _ k (nodeV k) rfl rfl rfl HD2.out ?_; intro w3 h1 h2 h3; rw [kput_nkv] at h1; have H1 := Lib.hid h1; have HK3 := Lib.hid h2; clear h1 h2 h3))
      · go_ret
        have hR : R = [] := by simpa using HNIL.out
        subst hR
        exact ⟨_, D, rfl, Nat.le_refl _, HD.out, fun x => by rw [HCP.out x]; simp, HK.out⟩
      · go_roundg ((sdel R k).length + 1)
        case measure => have := HGK.out; have := sdel_length HKR.out; omega
        case rel => exact ⟨sdel R k, _, rfl, Rng.keep HR2.out HK3.out (by omega) (by omega), H1.out, HCP.out.add HKX.out HP.out, HK2'.out.trans HK3.out (fun b hb h => by omega)⟩
      · go_roundg ((sdel R k).length + 1)
        case measure => have := HGK.out; have := sdel_length HKR.out; omega
        case rel => exact ⟨sdel R k, D, rfl, HR2.out, HD2.out, HCP.out.skip HP.out, HK2'.out⟩
end Go.Proofs.YtdaccgelmcmfjaaGreatDoor
end
