/- coloring.newSaturationDegree (no node coloured yet). -/
import Derived.Test.YtdaccgelmcmfjaaGreatDoorJQ10
import Derived.Test.YtdaccgelmcmfjaaGreatDoorM12
import Derived.Test.YtdaccgelmcmfjaaGreatDoorJV0
set_option linter.all false
namespace Go.Proofs.YtdaccgelmcmfjaaGreatDoor
open Go.RowKit Go.V
theorem infoInt : (Tryz.prog.info? 3).map (fun i => (i.zero, i.size, i.bytes)) = some (some (.int .i64 0), 1, 8) := by kernel_rfl
theorem infoSet : (Tryz.prog.info? 191).map (fun i => (i.zero, i.size, i.bytes)) = some (some (.map none), 1, 8) := by kernel_rfl
theorem mkInts (W : World) (k : Nat) (hk : k ≤ 1000) : (Instr.makeSlice 22 (.int .i64 (k : Int)) (.int .i64 (k : Int))).run Tryz.prog W = .ok (.slice (some ⟨W.heap.size, 0, none⟩) k k) (W.alloc (.cells (Array.replicate k (.int .i64 0)) 3 (0, 0))) := by
  obtain ⟨i, hi, hz, hsize, hby⟩ := info_parts infoInt
  have hr := run_make (P := Tryz.prog) W 22 3 i _ Tryz.underlying22 hi hz .i64 .i64 k k (by omega) (Int.le_refl _) (by rw [hby]; omega) (by omega)
  simp only [Int.toNat_natCast] at hr
  rw [hr, hsize]
  have : madeCells (Value.int .i64 0).cells (k * 1) = Array.replicate k (.int .i64 0) := by
    apply Array.ext_getElem?
    intro j
    by_cases hj : j < k <;> simp [madeCells, Value.cells, Array.getElem?_map, Array.getElem?_range, Array.getElem?_replicate, hj, Nat.mod_one]
  rw [this]
theorem mkSets (W : World) (k : Nat) (hk : k ≤ 1000) : (Instr.makeSlice 134 (.int .i64 (k : Int)) (.int .i64 (k : Int))).run Tryz.prog W = .ok (.slice (some ⟨W.heap.size, 0, none⟩) k k) (W.alloc (.cells (Array.replicate k (.map none)) 191 (0, 0))) := by
  obtain ⟨i, hi, hz, hsize, hby⟩ := info_parts infoSet
  have hr := run_make (P := Tryz.prog) W 134 191 i _ Tryz.underlying134 hi hz .i64 .i64 k k (by omega) (Int.le_refl _) (by rw [hby]; omega) (by omega)
  simp only [Int.toNat_natCast] at hr
  rw [hr, hsize]
  have : madeCells (Value.map none).cells (k * 1) = Array.replicate k (.map none) := by
    apply Array.ext_getElem?
    intro j
    by_cases hj : j < k <;> simp [madeCells, Value.cells, Array.getElem?_map, Array.getElem?_range, Array.getElem?_replicate, hj, Nat.mod_one]
  rw [this]
structure Mk (w0 w : World) (ib db ab n k m : Nat) (l : List Int) : Prop where
  idx : ∃ IX, ColAt w ib IX ∧ ∀ i u, i < k → l[i]? = some u → cget IX u = some i
  deg : ∃ cs, w.heap[db]? = some (.cells cs 3 (0, 0)) ∧ cs.size = n ∧ ∀ i, i < n → ∃ d : Nat, cs[i]? = some (.int .i64 (d : Int))
  adj : ∃ cs, w.heap[ab]? = some (.cells cs 191 (0, 0)) ∧ cs.size = n ∧ ∀ j, j < m → ∃ a ks, cs[j]? = some (.map (some a)) ∧ SetAt w a ks ∧ w0.heap.size + 4 ≤ a
  i1 : w0.heap.size ≤ ib ∧ ib < w0.heap.size + 4
  i2 : w0.heap.size ≤ db ∧ db < w0.heap.size + 4
  i3 : w0.heap.size ≤ ab ∧ ab < w0.heap.size + 4
  n1 : ib ≠ db
  n2 : ib ≠ ab
  n3 : db ≠ ab
theorem Mk.start {w0 w : World} {ib db ab n : Nat} {l : List Int} (h1 : w.heap[ib]? = some (.map #[] 0)) (h2 : w.heap[db]? = some (.cells (Array.replicate n (.int .i64 0)) 3 (0, 0))) (h3 : w.heap[ab]? = some (.cells (Array.replicate n (.map none)) 191 (0, 0)))
    (i1 : w0.heap.size ≤ ib ∧ ib < w0.heap.size + 4) (i2 : w0.heap.size ≤ db ∧ db < w0.heap.size + 4) (i3 : w0.heap.size ≤ ab ∧ ab < w0.heap.size + 4) (n1 : ib ≠ db) (n2 : ib ≠ ab) (n3 : db ≠ ab) : Mk w0 w ib db ab n 0 0 l :=
  ⟨⟨[], ⟨#[], 0, h1, rfl, List.nodup_nil, List.nodup_nil, fun e he => by simp at he⟩, fun i u hi => absurd hi (Nat.not_lt_zero _)⟩, ⟨_, h2, by simp, fun i hi => ⟨0, by simp [hi]⟩⟩, ⟨_, h3, by simp, fun j hj => absurd hj (Nat.not_lt_zero _)⟩, i1, i2, i3, n1, n2, n3⟩
section
variable {w0 w w' : World} {ib db ab n k m : Nat} {l : List Int}
theorem Mk.keep {S : Nat → Prop} (h : Mk w0 w ib db ab n k m l) (hk : Keep S w w') (h1 : ¬ S ib) (h2 : ¬ S db) (h3 : ¬ S ab) (h4 : ∀ a, w0.heap.size + 4 ≤ a → ¬ S a) : Mk w0 w' ib db ab n k m l :=
  ⟨(let ⟨IX, a, b⟩ := h.idx; ⟨IX, a.keep hk h1, b⟩), (let ⟨cs, a, b⟩ := h.deg; ⟨cs, hk.get a h2, b⟩), (let ⟨cs, a, b, c⟩ := h.adj; ⟨cs, hk.get a h3, b, fun j hj => let ⟨x, ks, d, e, f⟩ := c j hj; ⟨x, ks, d, e.keep hk (h4 x f), f⟩⟩), h.i1, h.i2, h.i3, h.n1, h.n2, h.n3⟩
theorem Mk.keepF (h : Mk w0 w ib db ab n k m l) (hk : Keep (fun _ => False) w w') : Mk w0 w' ib db ab n k m l := h.keep hk (fun h => h) (fun h => h) (fun h => h) (fun _ _ h => h)
theorem Mk.degSet (h : Mk w0 w ib db ab n k m l) (j : Nat) (d : Nat) : Mk w0 (w.setCell ⟨db, j, none⟩ (.int .i64 (d : Int))) ib db ab n k m l := by
  have hk : Keep (fun b => b = db) w (w.setCell ⟨db, j, none⟩ (.int .i64 (d : Int))) := (Keep.refl _ _).setCell (a := ⟨db, j, none⟩) _ (fun _ => rfl)
  have i2 := h.i2
  refine ⟨(let ⟨IX, a, b⟩ := h.idx; ⟨IX, a.keep hk h.n1, b⟩), ?_, (let ⟨cs, a, b, c⟩ := h.adj; ⟨cs, hk.get a (fun e => h.n3 e.symm), b, fun j hj => let ⟨x, ks, d, e, f⟩ := c j hj; ⟨x, ks, d, e.keep hk (show ¬ x = db by omega), f⟩⟩), h.i1, h.i2, h.i3, h.n1, h.n2, h.n3⟩
  obtain ⟨cs, a, b, c⟩ := h.deg
  refine ⟨_, heapV_setCell a j _, by simp [b], fun i hi => ?_⟩
  rw [Array.getElem?_setIfInBounds]
  split
  · rename_i e; subst e; exact ⟨d, by simp [b, hi]⟩
  · exact c i hi
theorem Mk.adjMake (h : Mk w0 w ib db ab n k m l) (hm : m < n) (hs : w0.heap.size + 4 ≤ w.heap.size) : Mk w0 ((w.setCell ⟨ab, m, none⟩ (.map (some w.heap.size))).alloc (.map #[] 0)) ib db ab n k (m + 1) l := by
  have hk : Keep (fun b => b = ab) w (w.setCell ⟨ab, m, none⟩ (.map (some w.heap.size))) := (Keep.refl _ _).setCell (a := ⟨ab, m, none⟩) _ (fun _ => rfl)
  have hka := (Keep.refl (fun _ => False) (w.setCell ⟨ab, m, none⟩ (.map (some w.heap.size)))).alloc (.map #[] 0)
  have i3 := h.i3
  have hs1 : (w.setCell ⟨ab, m, none⟩ (.map (some w.heap.size))).heap.size = w.heap.size := by simp
  refine ⟨(let ⟨IX, a, b⟩ := h.idx; ⟨IX, (a.keep hk h.n2).keepF hka, b⟩), (let ⟨cs, a, b⟩ := h.deg; ⟨cs, hka.get (hk.get a h.n3) (fun h => h), b⟩), ?_, h.i1, h.i2, h.i3, h.n1, h.n2, h.n3⟩
  obtain ⟨cs, a, b, c⟩ := h.adj
  refine ⟨_, hka.get (heapV_setCell a m _) (fun h => h), by simp [b], fun j hj => ?_⟩
  rw [Array.getElem?_setIfInBounds]
  rcases Nat.lt_succ_iff_lt_or_eq.1 hj with h1 | rfl
  · obtain ⟨x, ks, d, e, f⟩ := c j h1
    rw [if_neg (by omega)]
    exact ⟨x, ks, d, (e.keep hk (show ¬ x = ab by omega)).keep hka (fun h => h), f⟩
  · have := SetAt.made (w.setCell ⟨ab, j, none⟩ (.map (some w.heap.size)))
    rw [hs1] at this
    exact ⟨w.heap.size, [], by simp [b, hm], this, hs⟩
theorem Mk.idxPut (h : Mk w0 w ib db ab n k m l) (hl : l.Nodup) {u : Int} (hu : l[k]? = some u) {IX : PC} (hx : ∀ i u, i < k → l[i]? = some u → cget IX u = some i) (hc : ColAt w' ib (cput IX u k)) (hk : Keep (fun b => b = ib) w w') : Mk w0 w' ib db ab n (k + 1) m l := by
  have i1 := h.i1
  refine ⟨⟨_, hc, fun i v hi hv => ?_⟩, (let ⟨cs, a, b⟩ := h.deg; ⟨cs, hk.get a (fun e => h.n1 e.symm), b⟩), (let ⟨cs, a, b, c⟩ := h.adj; ⟨cs, hk.get a (fun e => h.n2 e.symm), b, fun j hj => let ⟨x, ks, d, e, f⟩ := c j hj; ⟨x, ks, d, e.keep hk (show ¬ x = ib by omega), f⟩⟩), h.i1, h.i2, h.i3, h.n1, h.n2, h.n3⟩
  rw [cget_cput]
  rcases Nat.lt_succ_iff_lt_or_eq.1 hi with h1 | rfl
  · rw [if_neg]
    · exact hx i v h1 hv
    · rintro rfl
      obtain ⟨a, e1⟩ := List.getElem?_eq_some_iff.1 hu
      obtain ⟨b, e2⟩ := List.getElem?_eq_some_iff.1 hv
      have := (List.getElem_inj hl).1 (e1.trans e2.symm)
      omega
  · rw [hv] at hu; cases hu; rw [if_pos rfl]
end
theorem four {X : World} {s : Nat} (hs : X.heap.size = s) (a b c d : Obj) : ((((X.alloc a).alloc b).alloc c).alloc d).drew.heap[s]? = some a ∧ ((((X.alloc a).alloc b).alloc c).alloc d).drew.heap[s + 1]? = some b ∧ ((((X.alloc a).alloc b).alloc c).alloc d).drew.heap[s + 1 + 1]? = some c ∧
    ((((X.alloc a).alloc b).alloc c).alloc d).drew.heap[s + 1 + 1 + 1]? = some d ∧ ((((X.alloc a).alloc b).alloc c).alloc d).drew.heap.size = X.heap.size + 4 ∧ Keep (fun _ => False) X ((((X.alloc a).alloc b).alloc c).alloc d).drew := by
  subst hs
  refine ⟨?_, ?_, ?_, ?_, ?_, ((((Keep.refl _ X).alloc a).alloc b).alloc c).alloc d |>.drew⟩
  · exact (heap_old (w := ((X.alloc a).alloc b).alloc c) (by simp <;> omega)).trans ((heap_old (w := (X.alloc a).alloc b) (by simp <;> omega)).trans ((heap_old (w := X.alloc a) (by simp)).trans (heap_new X a)))
  · exact (heap_old (w := ((X.alloc a).alloc b).alloc c) (by simp <;> omega)).trans ((heap_old (w := (X.alloc a).alloc b) (by simp)).trans (new_at (X := X.alloc a) (by simp) b))
  · exact (heap_old (w := ((X.alloc a).alloc b).alloc c) (by simp)).trans (new_at (X := (X.alloc a).alloc b) (by simp) c)
  · exact new_at (X := ((X.alloc a).alloc b).alloc c) (by simp) d
  · show (((((X.heap.push a).push b).push c).push d)).size = _
    simp
theorem seven {W : World} {b : Nat} {a0 a1 a2 a3 a4 a5 a6 : Value} {t : TypeId} (h : W.heap[b]? = some (.cells #[a0, a1, a2, a3, a4, a5, a6] t (0, 0))) : W.cell? ⟨b, 0, none⟩ = some a0 ∧ W.cell? ⟨b, 1, none⟩ = some a1 ∧ W.cell? ⟨b, 2, none⟩ = some a2 ∧ W.cell? ⟨b, 3, none⟩ = some a3 ∧ W.cell? ⟨b, 4, none⟩ = some a4 ∧ W.cell? ⟨b, 5, none⟩ = some a5 ∧ W.cell? ⟨b, 6, none⟩ = some a6 := by
  refine ⟨?_, ?_, ?_, ?_, ?_, ?_, ?_⟩ <;> (rw [cell_of h]; rfl)
def NewPost (w : World) (it g pb cb : Nat) (l : List Int) (e : Ending) (w' : World) : Prop :=
  ∃ (off cap ib db ab : Nat) (w1 : World), e = .returned (.agg #[.slice (some ⟨g, off, none⟩) l.length cap, .map (some ib), .slice (some ⟨db, 0, none⟩) l.length l.length, .slice (some ⟨ab, 0, none⟩) l.length l.length, gV pb, .map (some cb), .slice none 0 0]) ∧
    Cells w' g off (l.map nodeV) ∧ w.heap.size < w1.heap.size ∧ Mk w1 w' ib db ab l.length l.length l.length l ∧ Keep (fun b => b = it) w w'
set_option maxHeartbeats 8000000 in
set_option maxRecDepth 20000 in
theorem newSat_spec {B it g cb pb : Nat} {w : World} {G : PG} {l : List Int} (hG : Plain B w pb G) (hi : Iter w it g (l.map nodeV) 0) (hl : ∀ u ∈ l, u ∈ G.ids) (hnd : l.Nodup) (hn : 0 < l.length) (hsm : l.length ≤ 1000) (hc : ColAt w cb []) (hcit : cb ≠ it) (hB : B ≤ it) :
    Calls Tryz.prog 98 #[.iface 284 (.pointer (some ⟨it, 0, none⟩)), gV pb, .map (some cb)] w (NewPost w it g pb cb l) := by
  unfold NewPost
  have hmm := @run_makeMapN Tryz.prog _ _ _ Tryz.underlying83
  have hm2 := @run_makeMap Tryz.prog
  have hgl := hi.lt'
  have hitl := hi.lt
  have hmi := fun W => mkInts W l.length hsm
  have hms := fun W => mkSets W l.length hsm
  have hno := NodesOf_spec (hi.keep ((Keep.refl (fun _ => False) w).alloc (.cells #[.slice none 0 0, .map none, .slice none 0 0, .slice none 0 0, .nilIface, .map none, .slice none 0 0] 136 (0, 0))) (fun h => h) (fun h => h))
  have hno2 := hno.mono (R' := fun e w' => ∃ off cap, e = .returned (.slice (some ⟨g, off, none⟩) l.length cap) ∧ Cells w' g off (l.map nodeV) ∧ l.length ≤ cap ∧ cap ≤ maxLen ∧ Keep (fun b => b = it) (w.alloc (.cells #[.slice none 0 0, .map none, .slice none 0 0, .slice none 0 0, .nilIface, .map none, .slice none 0 0] 136 (0, 0))) w' ∧ w'.heap.size = w.heap.size + 1) (by
    rintro e w1 ⟨v, rfl, hrow, hk1, hs1⟩
    rcases hrow with ⟨_, h0⟩ | ⟨off, cap, rfl, hcells, hle, hmx, hfree⟩
    · exact absurd (congrArg List.length h0) (by rw [List.length_map]; exact Nat.ne_of_gt hn)
    · rw [List.length_map] at hle ⊢
      exact ⟨off, cap, rfl, hcells, hle, hmx, hk1, by simpa using hs1⟩)
  have HNO := Lib.hid hno2
  clear hno hno2
  go_enter Tryz.func98, Tryz.ntmps98
  go_upto_region 2 with (first
    | (((with_reducible refine (HNO.out).mono ?_); rintro e w1 ⟨off, cap, rfl, hcells, hle, hmx, hk1, hs1⟩); have HCELLS := Lib.hid hcells; have HK1 := Lib.hid hk1; clear hcells hk1))
  have hcb1 := (hc.keepF ((Keep.refl (fun _ => False) w).alloc (.cells #[.slice none 0 0, .map none, .slice none 0 0, .slice none 0 0, .nilIface, .map none, .slice none 0 0] 136 (0, 0)))).keep HK1.out hcit
  have hcbl := hc.lt
  have hres1 := HK1.out.get (heap_new w _) (show ¬ w.heap.size = it by omega)
  have HCB1 := Lib.hid hcb1
  have HRES1 := Lib.hid hres1
  clear hcb1 hres1
  generalize hnn : l.length = n at *
  clear hi hc
  go_cut [8] from 16 to 28 (fun tv wx => ∃ sb ib db ab, tv = .pointer (some ⟨sb, 0, none⟩) ∧ Mk w1 wx ib db ab n 0 0 l ∧ wx.heap[sb]? = some (.cells #[.slice (some ⟨g, off, none⟩) n cap, .map (some ib), .slice (some ⟨db, 0, none⟩) n n, .slice (some ⟨ab, 0, none⟩) n n, gV pb, .map (some cb), .slice none 0 0] 136 (0, 0)) ∧ sb ≠ ib ∧ sb ≠ db ∧ sb ≠ ab ∧ w1.heap.size ≤ sb ∧ wx.heap.size = w1.heap.size + 4 ∧ Keep (fun _ => False) w1 wx)
  case first =>
    go_region
    all_goals (go_wp2_with fail)
    all_goals go_meet
    all_goals
      apply Exists.intro
      apply Exists.intro
      apply Exists.intro
      apply Exists.intro
      refine ⟨rfl, ?mk, ?st, ?_, ?_, ?_, ?_, (four hs1 _ _ _ _).2.2.2.2.1, (four hs1 _ _ _ _).2.2.2.2.2⟩
      case st => first | exact (four hs1 _ _ _ _).1 | exact (four hs1 _ _ _ _).2.1 | exact (four hs1 _ _ _ _).2.2.1 | exact (four hs1 _ _ _ _).2.2.2.1
      case mk =>
        refine Mk.start ?_ ?_ ?_ (by omega) (by omega) (by omega) (by omega) (by omega) (by omega)
        · first | exact (four hs1 _ _ _ _).1 | exact (four hs1 _ _ _ _).2.1 | exact (four hs1 _ _ _ _).2.2.1 | exact (four hs1 _ _ _ _).2.2.2.1
        · first | exact (four hs1 _ _ _ _).1 | exact (four hs1 _ _ _ _).2.1 | exact (four hs1 _ _ _ _).2.2.1 | exact (four hs1 _ _ _ _).2.2.2.1
        · first | exact (four hs1 _ _ _ _).1 | exact (four hs1 _ _ _ _).2.1 | exact (four hs1 _ _ _ _).2.2.1 | exact (four hs1 _ _ _ _).2.2.2.1
      all_goals omega
  case rest =>
    obtain ⟨sb, ib, db, ab, rfl, hmk, hst, n1, n2, n3, hsb, hsz, hk⟩ := hcut
    have HGC := Lib.hid ((hG.keep ((Keep.refl (fun _ => False) w).alloc (.cells #[.slice none 0 0, .map none, .slice none 0 0, .slice none 0 0, .nilIface, .map none, .slice none 0 0] 136 (0, 0))) (fun _ h => h.elim)).keep (HK1.out.trans hk (fun _ _ h => h.elim)) (fun b hb => by rw [hb]; exact hB))
    have HCC := Lib.hid (HCELLS.out.keep hk (fun h => h))
    have HMK := Lib.hid hmk
    have HST := Lib.hid hst
    have HK := Lib.hid hk
    have i1 := hmk.i1
    have i2 := hmk.i2
    have i3 := hmk.i3
    have j1 := hmk.n1
    have j2 := hmk.n2
    have j3 := hmk.n3
    have hnf := nilFrom pb
    clear hmk hst hk hG HCELLS hmi hms
    go_wp2_with fail
    go_loopw [31] (fun i wr => ∃ k : Nat, i = .int .i64 (k : Int) ∧ k ≤ n ∧ Mk w1 wr ib db ab n k k l ∧ wr.heap[sb]? = some (.cells #[.slice (some ⟨g, off, none⟩) n cap, .map (some ib), .slice (some ⟨db, 0, none⟩) n n, .slice (some ⟨ab, 0, none⟩) n n, gV pb, .map (some cb), .slice none 0 0] 136 (0, 0)) ∧ Keep (fun b => b = ib ∨ b = db ∨ b = ab) wc wr) (fun i _ => n - (intOf i).toNat)
    case atStart => exact ⟨0, rfl, Nat.zero_le _, HMK.out, HST.out, Keep.refl _ _⟩
    case round =>
      obtain ⟨k, rfl, hkn, hmk, hst, hk⟩ := hrel
      clear HMK HST
      have HMK := Lib.hid hmk
      have HST := Lib.hid hst
      have HKW := Lib.hid hk
      clear hmk hst hk
      by_cases hlt : k < n
      · obtain ⟨u, hu⟩ : ∃ u, l[k]? = some u := ⟨_, List.getElem?_eq_getElem (by rw [hnn]; exact hlt)⟩
        obtain ⟨gi, hgi⟩ := List.mem_iff_getElem?.1 (hl u (List.mem_of_getElem? hu))
        have hgw := (HGC.out).keep HKW.out (fun b hb => by omega)
        have hfr := fun W (hk : Keep (fun _ => False) wr W) => From_any hgw hgi W hk
        have HFR := Lib.hid hfr
        have cn := HCC.out.keep HKW.out (show ¬ (g = ib ∨ g = db ∨ g = ab) by have := hgl; omega) k (nodeV u) (by rw [List.getElem?_map, hu]; rfl)
        have hcl : ∀ W, Keep (fun _ => False) wr W → W.cell? ⟨sb, 1, none⟩ = some (.map (some ib)) ∧ W.cell? ⟨sb, 2, none⟩ = some (.slice (some ⟨db, 0, none⟩) n n) ∧ W.cell? ⟨sb, 3, none⟩ = some (.slice (some ⟨ab, 0, none⟩) n n) := fun W hk => by
          have := hk.get HST.out (fun h => h)
          refine ⟨?_, ?_, ?_⟩ <;> (rw [cell_of this]; rfl)
        have hdg : ∀ W, Keep (fun _ => False) wr W → (∃ d : Int, W.cell? ⟨db, k, none⟩ = some (.int .i64 d)) ∧ W.frozen? ⟨db, k, none⟩ = false := fun W hk => by
          obtain ⟨cs, d1, d2, d3⟩ := HMK.out.deg
          have := hk.get d1 (fun h => h)
          obtain ⟨d, hd⟩ := d3 k hlt
          exact ⟨⟨d, by rw [cell_of this]; exact hd⟩, free_of this k⟩
        have HCL := Lib.hid hcl
        have HDG := Lib.hid hdg
        have HU := Lib.hid hu
        obtain ⟨c1, c2, c3⟩ := hcl wr (Keep.refl _ _)
        obtain ⟨⟨d0, cd⟩, fd⟩ := hdg wr (Keep.refl _ _)
        clear hfr hgw hgi hcl hdg hu
        go_upto_region 6 with fail
        go_cut [] from 36 to 47 (fun wx => Mk w1 wx ib db ab n k k l ∧ wx.heap[sb]? = some (.cells #[.slice (some ⟨g, off, none⟩) n cap, .map (some ib), .slice (some ⟨db, 0, none⟩) n n, .slice (some ⟨ab, 0, none⟩) n n, gV pb, .map (some cb), .slice none 0 0] 136 (0, 0)) ∧ Keep (fun b => b = db) wr wx)
        case first =>
          go_region_with (first
            | (((with_reducible refine (ID_at _ _).mono ?_); rintro e w3 ⟨rfl, rfl⟩))
            | (((with_reducible refine (HFR.out _ ((Keep.refl _ wr).drew)).mono ?_); rintro e w3 ⟨it2, g2, rfl, hi2, l1, l2, hk3⟩); have hk4 := Keep.trans ((Keep.refl (fun _ => False) wr).drew) hk3 (fun _ _ h => h); obtain ⟨a1, a2, a3⟩ := HCL.out _ hk4; obtain ⟨⟨d1, cd1⟩, fd1⟩ := HDG.out _ hk4; have HI2 := Lib.hid hi2; have HK4 := Lib.hid hk4; clear hi2 hk3 hk4)
            | (((with_reducible refine (Len_spec HI2.out (Nat.zero_le _)).mono ?_); rintro e w4 ⟨rfl, q, rfl⟩)))
          all_goals (go_wp2_with fail)
          all_goals go_meet
          all_goals
            have hk5 := HK4.out.drewN q
            have hk6 : Keep (fun b => b = db) wr ((w3.drewN q).setCell ⟨db, k, none⟩ (.int .i64 ((G.nbr gi).length : Int))) := (hk5.mono (T := fun b => b = db) (fun _ _ h => h.elim)).setCell (a := ⟨db, k, none⟩) _ (fun _ => rfl)
            exact ⟨(HMK.out.keepF hk5).degSet k _, hk6.get HST.out n2, hk6⟩
        case rest =>
          obtain ⟨hm7, hst7, hk7⟩ := hcut
          rename World => w7
          clear c1 c2 c3 cd fd cn HCL HDG HFR
          have hk8 : Keep (fun b => b = ib ∨ b = db ∨ b = ab) wc w7 := HKW.out.trans hk7 (fun b _ h => .inr (.inl h))
          have hsz7 : w1.heap.size + 4 ≤ w7.heap.size := by have := hk8.size; omega
          have c3 : w7.cell? ⟨sb, 3, none⟩ = some (.slice (some ⟨ab, 0, none⟩) n n) := by rw [cell_of hst7]; rfl
          obtain ⟨⟨v0, ca⟩, fa⟩ : (∃ v, w7.cell? ⟨ab, k, none⟩ = some v) ∧ w7.frozen? ⟨ab, k, none⟩ = false := by
            obtain ⟨cs, a, b, _⟩ := hm7.adj
            exact ⟨⟨_, by rw [cell_of a]; exact Array.getElem?_eq_getElem (by rw [b]; exact hlt)⟩, free_of a k⟩
          have hka := (Keep.refl (fun _ => False) w7).alloc (.map #[] 0)
          have habl : ab < w7.heap.size := by omega
          have ca' : (w7.alloc (.map #[] 0)).cell? ⟨ab, k, none⟩ = some v0 := (hka.cell (a := ⟨ab, k, none⟩) habl (fun h => h)).trans ca
          have fa' : (w7.alloc (.map #[] 0)).frozen? ⟨ab, k, none⟩ = false := (hka.frozen (a := ⟨ab, k, none⟩) habl (fun h => h)).trans fa
          have hk9 : Keep (fun b => b = ab) w7 ((w7.setCell ⟨ab, k, none⟩ (.map (some w7.heap.size))).alloc (.map #[] 0)) := ((Keep.refl (fun b => b = ab) w7).setCell (a := ⟨ab, k, none⟩) _ (fun _ => rfl)).alloc _
          have HM9 := Lib.hid (hm7.adjMake hlt hsz7)
          have HST9 := Lib.hid (hk9.get hst7 n3)
          have HK9 := Lib.hid (hk8.trans hk9 (fun b _ h => .inr (.inr h)))
          clear hm7 hst7 hk7 hk8 hk9 hka ca fa
          go_upto_region 8 with fail
          generalize ((w7.setCell ⟨ab, k, none⟩ (.map (some w7.heap.size))).alloc (.map #[] 0)) = w9 at *
          obtain ⟨IX, hix, hix2⟩ := HM9.out.idx
          obtain ⟨es, ck, hrun, hrep⟩ := run_update_int (P := Tryz.prog) Tryz.underlying83 Tryz.underlying2 (hix.keepF ((Keep.refl (fun _ => False) w9).drew)) u (.int .i64 (k : Int))
          have c1 : w9.cell? ⟨sb, 1, none⟩ = some (.map (some ib)) := by rw [cell_of HST9.out]; rfl
          have hibl : ib < w9.heap.size := hix.lt
          have hk10 : Keep (fun b => b = ib) w9 (Go.ChangeMaps.setBlock w9.drew ib (.map es ck)) := ((Keep.refl (fun b => b = ib) w9).drew).setBlock _ (fun _ => rfl)
          have hmap : ColAt (Go.ChangeMaps.setBlock w9.drew ib (.map es ck)) ib (cput IX u k) := ⟨es, ck, heap_setBlock_same hibl, by rw [← kput_ckv]; exact hrep⟩
          have HMK10 := Lib.hid (HM9.out.idxPut hnd HU.out hix2 hmap hk10)
          have HK10 := Lib.hid hk10
          clear hrep hmap hk10 hix hix2
          go_region_with (first | (((with_reducible refine (ID_at _ _).mono ?_); rintro e w3 ⟨rfl, rfl⟩)))
          all_goals (go_wp2_with fail)
          all_goals go_roundw
          all_goals first
            | (simp [intOf]; omega)
            | exact ⟨k + 1, by go_num, by omega, HMK10.out, HK10.out.get HST9.out n1, HK9.out.trans HK10.out (fun b _ h => .inl h)⟩
      · obtain rfl : k = n := by omega
        have HCB := Lib.hid ((HCB1.out.keepF HK.out).keep HKW.out (show ¬ (cb = ib ∨ cb = db ∨ cb = ab) by omega))
        have hres := (HK.out.get HRES1.out (fun h => h)).symm ▸ HK.out.get HRES1.out (fun h => h)
        have HRES := Lib.hid (HKW.out.get (HK.out.get HRES1.out (fun h => h)) (show ¬ (w.heap.size = ib ∨ w.heap.size = db ∨ w.heap.size = ab) by omega))
        have HG2 := Lib.hid (HCC.out.keep HKW.out (show ¬ (g = ib ∨ g = db ∨ g = ab) by omega))
        have HK2 := Lib.hid (((((Keep.refl (fun _ => False) w).alloc (.cells #[.slice none 0 0, .map none, .slice none 0 0, .slice none 0 0, .nilIface, .map none, .slice none 0 0] 136 (0, 0))).mono (T := fun b => b = it) (fun _ _ h => h.elim)).trans HK1.out (fun _ _ h => h)).trans HK.out (fun _ _ h => h.elim) |>.trans HKW.out (fun b hb h => by omega))
        clear hres
        have hsbw : ¬ sb = w.heap.size := by omega
        go_wp2_with (first
          | (at_range; refine wpList_range_kv rfl _ _ rfl 2 3 Tryz.underlying83 cb _ rfl HCB.out ?_; intro w10 hr hk hs; have HR := Lib.hid hr; have HK10 := Lib.hid hk; obtain ⟨s0, s1, s2, s3, s4, s5, s6⟩ := seven (hk.get HST.out (fun h => h)); have hre := hk.get HRES.out (fun h => h); obtain ⟨r0, r1, r2, r3, r4, r5, r6⟩ := seven hre; have f0 := free_of hre 0; have f1 := free_of hre 1; have f2 := free_of hre 2; have f3 := free_of hre 3; have f4 := free_of hre 4; have f5 := free_of hre 5; have f6 := free_of hre 6; clear hr hk hs hre; go_frame))
        refine wp_loop_rounds 1 ?_
        rw [rounds_succ]
        go_wp2_with (first
          | (at_next; refine wpList_next_ent rfl _ rfl wr.heap.size cb _ _ rfl HR.out ?_ ?_; rotate_left; intro kk x w7 hmem hr2 hk2 hs2 hent; simp [ckv] at hmem; intro hnil))
        have hre := HK10.out.get HRES.out (fun h => h)
        have hfin := chain7_heap hre (.slice (some ⟨g, off, none⟩) k cap) (.map (some ib)) (.slice (some ⟨db, 0, none⟩) k k) (.slice (some ⟨ab, 0, none⟩) k k) (gV pb) (.map (some cb)) (.slice none 0 0)
        have hkf := chain7_keep w10 w.heap.size (.slice (some ⟨g, off, none⟩) k cap) (.map (some ib)) (.slice (some ⟨db, 0, none⟩) k k) (.slice (some ⟨ab, 0, none⟩) k k) (gV pb) (.map (some cb)) (.slice none 0 0)
        have HKF := Lib.hid (HK10.out.mono (T := fun b => b = w.heap.size) (fun _ _ h => h.elim) |>.trans hkf (fun _ _ h => h))
        clear hkf hre s0 s1 s2 s3 s4 s5 s6 r0 r1 r2 r3 r4 r5 r6 f0 f1 f2 f3 f4 f5 f6
        obtain ⟨q0, q1, q2, q3, q4, q5, q6⟩ := seven hfin
        clear hfin
        change bodyPost _ _ _ _ _ (chain7 w10 w.heap.size (.slice (some ⟨g, off, none⟩) k cap) (.map (some ib)) (.slice (some ⟨db, 0, none⟩) k k) (.slice (some ⟨ab, 0, none⟩) k k) (gV pb) (.map (some cb)) (.slice none 0 0))
        generalize chain7 w10 w.heap.size (.slice (some ⟨g, off, none⟩) k cap) (.map (some ib)) (.slice (some ⟨db, 0, none⟩) k k) (.slice (some ⟨ab, 0, none⟩) k k) (gV pb) (.map (some cb)) (.slice none 0 0) = wf at *
        (try simp only [Exit.inBlock, Exit.then])
        refine bodyPost_ret (v := .agg #[.slice (some ⟨g, off, none⟩) k cap, .map (some ib), .slice (some ⟨db, 0, none⟩) k k, .slice (some ⟨ab, 0, none⟩) k k, gV pb, .map (some cb), .slice none 0 0]) (by simp [results, Tryz.results98, go_sem, q0, q1, q2, q3, q4, q5, q6]; try rfl) rfl ?_
        rw [hnn]
        exact ⟨off, cap, ib, db, ab, w1, rfl, HG2.out.keep HKF.out (show ¬ g = w.heap.size by omega), by omega, HMK.out.keep HKF.out (show ¬ ib = w.heap.size by omega) (show ¬ db = w.heap.size by omega) (show ¬ ab = w.heap.size by omega) (fun a ha => show ¬ a = w.heap.size by omega), HK2.out.trans HKF.out (fun b hb h => absurd (show b = w.heap.size from h) (by omega))⟩
end Go.Proofs.YtdaccgelmcmfjaaGreatDoor
