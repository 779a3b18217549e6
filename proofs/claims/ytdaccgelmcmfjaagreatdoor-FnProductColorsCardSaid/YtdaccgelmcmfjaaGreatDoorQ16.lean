/- (*saturationDegreeIterator).Node, Next: each call hands out a node without a colour. -/
import Derived.Test.YtdaccgelmcmfjaaGreatDoorQ15
import Derived.Deep.RegionHeld3
set_option linter.all false
namespace Go.Proofs.YtdaccgelmcmfjaaGreatDoor
open Go.RowKit Go.V
abbrev heurV (s : SG) : Value := .func (.func 54) #[s.ptr] #[]
def AdjW (w : World) (s : SG) (base top : Nat) : Prop := ∀ i, i < s.l.length → ∃ a ks, w.cell? ⟨s.ab, i, none⟩ = some (.map (some a)) ∧ SetAt w a ks ∧ base ≤ a ∧ a < top
def DegN (w : World) (s : SG) : Prop := ∀ i, i < s.l.length → ∃ d : Nat, w.cell? ⟨s.db, i, none⟩ = some (.int .i64 (d : Int))
structure GI (w : World) (s : SG) (pb cb base top : Nat) (cnt curr : Int) (C : PC) : Prop where
  sat : ∃ wk, Sat w s pb cnt curr (heurV s) (.map (some cb)) wk
  adj : AdjW w s base top
  deg : DegN w s
  col : ColAt w cb C
  l1 : s.sb < top
  l2 : s.nb < base
  l3 : s.ib < base
  l4 : s.db < base
  l5 : s.ab < base
  l6 : cb < base
  l7 : base ≤ top
  l8 : top ≤ w.heap.size
  ne : cb ≠ s.ib ∧ cb ≠ s.nb
section
variable {w w' : World} {s : SG} {pb cb base top : Nat} {cnt curr : Int} {C : PC}
theorem GI.keep {S : Nat → Prop} (h : GI w s pb cb base top cnt curr C) (hk : Keep S w w') (hS : ∀ b, S b → top ≤ b) : GI w' s pb cb base top cnt curr C := by
  have h1 := h.l1; have h2 := h.l2; have h3 := h.l3; have h4 := h.l4; have h5 := h.l5; have h6 := h.l6; have h7 := h.l7
  have hn : ∀ b, b < top → ¬ S b := fun b hb e => by have := hS b e; omega
  exact ⟨(let ⟨wk, a⟩ := h.sat; ⟨wk, a.keep hk (hn _ h1) (hn _ (by omega)) (hn _ (by omega)) (hn _ (by omega)) (hn _ (by omega))⟩), (fun i hi => let ⟨a, ks, x, y, z⟩ := h.adj i hi; ⟨a, ks, by rw [hk.cell (a := ⟨s.ab, i, none⟩) (World.block_lt_of_cell? _ _ x) (hn _ (by show s.ab < top; omega))]; exact x, y.keep hk (hn a z.2), z⟩),
    (fun i hi => let ⟨d, x⟩ := h.deg i hi; ⟨d, by rw [hk.cell (a := ⟨s.db, i, none⟩) (World.block_lt_of_cell? _ _ x) (hn _ (by show s.db < top; omega))]; exact x⟩), h.col.keep hk (hn _ (by omega)), h1, h2, h3, h4, h5, h6, h7, Nat.le_trans h.l8 hk.size, h.ne⟩
theorem GI.keepF (h : GI w s pb cb base top cnt curr C) (hk : Keep (fun _ => False) w w') : GI w' s pb cb base top cnt curr C := h.keep hk (fun _ h => h.elim)
theorem GI.cells (h : GI w s pb cb base top cnt curr C) : w.cell? ⟨s.sb, 0, none⟩ = some (.int .i64 cnt) ∧ w.cell? ⟨s.sb, 1, none⟩ = some (.int .i64 curr) ∧ w.cell? ⟨s.sb, 2, none⟩ = some (heurV s) ∧ w.cell? ⟨s.sb, 3, none⟩ = some s.nodesV ∧ w.cell? ⟨s.sb, 4, none⟩ = some (.map (some s.ib)) ∧
    w.cell? ⟨s.sb, 5, none⟩ = some (.slice (some ⟨s.db, 0, none⟩) s.l.length s.l.length) ∧ w.cell? ⟨s.sb, 6, none⟩ = some (.slice (some ⟨s.ab, 0, none⟩) s.l.length s.l.length) ∧ w.cell? ⟨s.sb, 7, none⟩ = some (gV pb) ∧ w.cell? ⟨s.sb, 8, none⟩ = some (.map (some cb)) ∧
    w.frozen? ⟨s.sb, 0, none⟩ = false ∧ w.frozen? ⟨s.sb, 1, none⟩ = false := by
  obtain ⟨wk, a⟩ := h.sat
  refine ⟨?_, ?_, ?_, ?_, ?_, ?_, ?_, ?_, ?_, free_of a.head 0, free_of a.head 1⟩ <;> (rw [cell_of a.head]; rfl)
theorem GI.small (h : GI w s pb cb base top cnt curr C) : s.l.length ≤ 1000 := by obtain ⟨wk, a⟩ := h.sat; exact a.small
theorem GI.node (h : GI w s pb cb base top cnt curr C) {i : Nat} {u : Int} (hu : s.l[i]? = some u) : w.cell? ⟨s.nb, s.noff + i, none⟩ = some (nodeV u) := by obtain ⟨wk, a⟩ := h.sat; exact a.node hu
theorem GI.lookup (h : GI w s pb cb base top cnt curr C) {i : Nat} {u : Int} (hu : s.l[i]? = some u) : (Instr.lookup 83 (.map (some s.ib)) (.int .i64 u) false).run Tryz.prog w = .ok (.int .i64 (i : Int)) w := by
  obtain ⟨wk, a⟩ := h.sat
  obtain ⟨IX, hx, hx2⟩ := a.idx
  have := run_lookup_int Tryz.underlying83 Tryz.underlying2 hx u (zeroI w) false
  rw [this, kget_ckv, hx2 i u hu]; rfl
theorem GI.colNe (h : GI w s pb cb base top cnt curr C) : cb ≠ s.sb := by
  obtain ⟨wk, a⟩ := h.sat
  exact (a.colNe h.col).1
theorem GI.ibNe (h : GI w s pb cb base top cnt curr C) : s.ib ≠ s.sb := by
  obtain ⟨wk, a⟩ := h.sat
  obtain ⟨IX, b, _⟩ := a.idx
  exact MapAt.ne_cells b a.head
theorem GI.head (h : GI w s pb cb base top cnt curr C) (hk : Keep (fun b => b = s.sb) w w') {cnt' curr' : Int} (hh : ∀ wk, w.heap[s.sb]? = some (.cells #[.int .i64 cnt, .int .i64 curr, heurV s, s.nodesV, .map (some s.ib), .slice (some ⟨s.db, 0, none⟩) s.l.length s.l.length, .slice (some ⟨s.ab, 0, none⟩) s.l.length s.l.length, gV pb, .map (some cb), wk] 138 (0, 0)) →
      w'.heap[s.sb]? = some (.cells #[.int .i64 cnt', .int .i64 curr', heurV s, s.nodesV, .map (some s.ib), .slice (some ⟨s.db, 0, none⟩) s.l.length s.l.length, .slice (some ⟨s.ab, 0, none⟩) s.l.length s.l.length, gV pb, .map (some cb), wk] 138 (0, 0))) : GI w' s pb cb base top cnt' curr' C := by
  have hib := h.ibNe
  obtain ⟨wk, a⟩ := h.sat
  refine ⟨⟨wk, hh wk a.head, a.nodes.keep hk a.n1, a.small, ?_, ?_, ?_, a.n1, a.n2, a.n3, a.n4, a.n5, Nat.lt_of_lt_of_le a.nbl hk.size⟩, fun i hi => ?_, fun i hi => ?_, h.col.keep hk h.colNe, h.l1, h.l2, h.l3, h.l4, h.l5, h.l6, h.l7, Nat.le_trans h.l8 hk.size, h.ne⟩
  · obtain ⟨IX, x, y⟩ := a.idx; exact ⟨IX, x.keep hk hib, y⟩
  · obtain ⟨cs, x, y⟩ := a.deg; exact ⟨cs, hk.get x a.n2, y⟩
  · obtain ⟨cs, x, y⟩ := a.adj; exact ⟨cs, hk.get x a.n3, y⟩
  · obtain ⟨b, ks, x, y, z⟩ := h.adj i hi
    exact ⟨b, ks, by rw [hk.cell (a := ⟨s.ab, i, none⟩) (World.block_lt_of_cell? _ _ x) a.n3]; exact x, y.keep hk (show ¬ b = s.sb from MapAt.ne_cells y a.head), z⟩
  · obtain ⟨d, x⟩ := h.deg i hi
    exact ⟨d, by rw [hk.cell (a := ⟨s.db, i, none⟩) (World.block_lt_of_cell? _ _ x) a.n2]; exact x⟩
theorem GI.setCnt (h : GI w s pb cb base top cnt curr C) (x : Int) : GI (w.setCell ⟨s.sb, 0, none⟩ (.int .i64 x)) s pb cb base top x curr C :=
  h.head ((Keep.refl _ _).setCell (a := ⟨s.sb, 0, none⟩) _ (fun _ => rfl)) fun wk hw => by rw [heapV_setCell hw]; rfl
theorem GI.setCurr (h : GI w s pb cb base top cnt curr C) (x : Int) : GI (w.setCell ⟨s.sb, 1, none⟩ (.int .i64 x)) s pb cb base top cnt x C :=
  h.head ((Keep.refl _ _).setCell (a := ⟨s.sb, 1, none⟩) _ (fun _ => rfl)) fun wk hw => by rw [heapV_setCell hw]; rfl
theorem GI.add (h : GI w s pb cb base top cnt curr C) {a : Nat} {ks : List Int} (ha : base ≤ a ∧ a < top) (hne : a ≠ s.sb) (hk : Keep (fun b => b = a) w w') (hs : SetAt w' a ks) : GI w' s pb cb base top cnt curr C := by
  have h2 := h.l2; have h3 := h.l3; have h4 := h.l4; have h5 := h.l5; have h6 := h.l6
  obtain ⟨wk, x⟩ := h.sat
  refine ⟨⟨wk, x.keep hk (fun e => hne e.symm) (by omega) (by omega) (by omega) (by omega)⟩, fun i hi => ?_, fun i hi => ?_, h.col.keep hk (show ¬ cb = a by omega), h.l1, h.l2, h.l3, h.l4, h.l5, h.l6, h.l7, Nat.le_trans h.l8 hk.size, h.ne⟩
  · obtain ⟨b, qs, p, q, r⟩ := h.adj i hi
    have p' : w'.cell? ⟨s.ab, i, none⟩ = some (.map (some b)) := by rw [hk.cell (a := ⟨s.ab, i, none⟩) (World.block_lt_of_cell? _ _ p) (show ¬ s.ab = a by omega)]; exact p
    by_cases e : b = a
    · subst e; exact ⟨b, ks, p', hs, r⟩
    · exact ⟨b, qs, p', q.keep hk e, r⟩
  · obtain ⟨d, p⟩ := h.deg i hi
    exact ⟨d, by rw [hk.cell (a := ⟨s.db, i, none⟩) (World.block_lt_of_cell? _ _ p) (show ¬ s.db = a by omega)]; exact p⟩
theorem GI.recol (h : GI w s pb cb base top cnt curr C) {C' : PC} (hk : Keep (fun b => b = cb) w w') (hc : ColAt w' cb C') : GI w' s pb cb base top cnt curr C' := by
  have h2 := h.l2; have h3 := h.l3; have h4 := h.l4; have h5 := h.l5; have h6 := h.l6
  have hne := h.colNe
  obtain ⟨n1, n2⟩ := h.ne
  obtain ⟨wk, x⟩ := h.sat
  have n3 : cb ≠ s.db := by obtain ⟨cs, a, _⟩ := x.deg; exact MapAt.ne_cells h.col a
  have n4 : cb ≠ s.ab := by obtain ⟨cs, a, _⟩ := x.adj; exact MapAt.ne_cells h.col a
  refine ⟨⟨wk, x.keep hk (Ne.symm hne) (Ne.symm n2) (Ne.symm n1) (Ne.symm n3) (Ne.symm n4)⟩, fun i hi => ?_, fun i hi => ?_, hc, h.l1, h.l2, h.l3, h.l4, h.l5, h.l6, h.l7, Nat.le_trans h.l8 hk.size, h.ne⟩
  · obtain ⟨b, qs, p, q, r⟩ := h.adj i hi
    exact ⟨b, qs, by rw [hk.cell (a := ⟨s.ab, i, none⟩) (World.block_lt_of_cell? _ _ p) (Ne.symm n4)]; exact p, q.keep hk (show ¬ b = cb by omega), r⟩
  · obtain ⟨d, p⟩ := h.deg i hi
    exact ⟨d, by rw [hk.cell (a := ⟨s.db, i, none⟩) (World.block_lt_of_cell? _ _ p) (Ne.symm n3)]; exact p⟩
theorem GI.set (h : GI w s pb cb base top cnt curr C) {i : Nat} (hi : i < s.l.length) : ∃ a ks, w.cell? ⟨s.ab, i, none⟩ = some (.map (some a)) ∧ SetAt w a ks ∧ (base ≤ a ∧ a < top) ∧ a ≠ s.sb := by
  obtain ⟨a, ks, x, y, z⟩ := h.adj i hi
  obtain ⟨wk, b⟩ := h.sat
  exact ⟨a, ks, x, y, z, MapAt.ne_cells y b.head⟩
end
set_option maxHeartbeats 8000000 in
set_option maxRecDepth 20000 in
theorem satNode_spec {w : World} {s : SG} {pb cb base top i : Nat} {cnt : Int} {C : PC} {u : Int} (h : GI w s pb cb base top cnt (i : Int) C) (hu : s.l[i]? = some u) :
    Calls Tryz.prog 276 #[.pointer (some ⟨s.sb, 0, none⟩)] w fun e w' => e = .returned (nodeV u) ∧ ∃ n, w' = w.drewN n := by
  obtain ⟨c0, c1, c2, c3, c4, c5, c6, c7, c8, f0, f1⟩ := h.cells
  have cn := h.node hu
  have hsm := h.small
  have hil : i < s.l.length := (List.getElem?_eq_some_iff.1 hu).1
  unfold SG.nodesV at c3
  clear c0 c2 c4 c5 c6 c7 c8 f0 f1 h
  generalize s.l.length = n at *
  go_enter Tryz.func276, Tryz.ntmps276
  go_wp2_with fail
  go_quiet (fail)
  go_wp2_with fail
  go_ret
  exact ⟨rfl, _, rfl⟩
def NextPost (w : World) (s : SG) (pb cb base top : Nat) (C : PC) (k : Nat) (e : Ending) (w' : World) : Prop :=
  ∃ (i : Nat) (u : Int), e = .returned (.bool true) ∧ s.l[i]? = some u ∧ cget C u = none ∧ GI w' s pb cb base top (k : Int) (i : Int) C ∧ Keep (fun b => b = s.sb ∨ (base ≤ b ∧ b < top)) w w'
set_option maxHeartbeats 8000000 in
set_option maxRecDepth 100000 in
theorem satNext_first {w : World} {s : SG} {pb cb base top : Nat} (h : GI w s pb cb base top (-1) (-1) []) (hn : 0 < s.l.length) :
    Calls Tryz.prog 275 #[.pointer (some ⟨s.sb, 0, none⟩)] w (NextPost w s pb cb base top [] 0) := by
  unfold NextPost
  obtain ⟨c0, c1, c2, c3, c4, c5, c6, c7, c8, f0, f1⟩ := h.cells
  have hsm := h.small
  have hcell : ∀ W cnt curr, GI W s pb cb base top cnt curr [] → W.cell? ⟨s.sb, 1, none⟩ = some (.int .i64 curr) ∧ W.frozen? ⟨s.sb, 1, none⟩ = false ∧ ∀ i, i < s.l.length → ∃ d : Nat, W.cell? ⟨s.db, i, none⟩ = some (.int .i64 (d : Int)) := fun W cnt curr h => by
    obtain ⟨c0, c1, c2, c3, c4, c5, c6, c7, c8, f0, f1⟩ := h.cells
    exact ⟨c1, f1, h.deg⟩
  have hstart : ∀ q, GI ((w.drewN q).setCell ⟨s.sb, 0, none⟩ (.int .i64 0)) s pb cb base top 0 (-1) [] ∧ Keep (fun b => b = s.sb) w ((w.drewN q).setCell ⟨s.sb, 0, none⟩ (.int .i64 0)) := fun q =>
    ⟨(h.keepF ((Keep.refl _ w).drewN q)).setCnt 0, ((Keep.refl (fun b => b = s.sb) w).drewN q).setCell (a := ⟨s.sb, 0, none⟩) _ (fun _ => rfl)⟩
  have hnode : ∀ i, i < s.l.length → ∃ u, s.l[i]? = some u := fun i hi => ⟨_, List.getElem?_eq_getElem hi⟩
  unfold SG.nodesV at c3
  have HCELL := Lib.hid hcell
  have HSTART := Lib.hid hstart
  have HNODE := Lib.hid hnode
  clear h hcell hstart hnode c2 c4 c6 c7 c8
  generalize hnn : s.l.length = n at *
  have HNN := Lib.hid hnn
  clear hnn
  have e0 : IntKind.u64.wrap (IntKind.u64.wrap (-1) + 1) = 0 := by decide
  have e1 : (0 : Int) < (n : Int) := by omega
  go_enter Tryz.func275, Tryz.ntmps275
  go_wp2_with fail
  go_quiet (fail)
  go_wp2_with fail
  obtain ⟨hg, hk⟩ := HSTART.out nq
  have HG := Lib.hid hg
  have HK := Lib.hid hk
  clear hg hk HSTART e0 c0 c1 c3 c5 f0 f1
  go_loopw [3, 99] (fun mx i wr => ∃ (j : Nat) (x curr : Int), i = .int .i64 (j : Int) ∧ mx = .int .i64 x ∧ j ≤ n ∧ GI wr s pb cb base top 0 curr [] ∧ ((j = 0 ∧ x = -1) ∨ ∃ c : Nat, c < n ∧ curr = (c : Int)) ∧ Keep (fun b => b = s.sb) w wr) (fun _ i _ => n - (intOf i).toNat)
  case atStart => exact ⟨0, -1, -1, rfl, rfl, Nat.zero_le _, HG.out, .inl ⟨rfl, rfl⟩, HK.out⟩
  case round =>
    clear HG HK
    obtain ⟨j, x, curr, rfl, rfl, hjn, hg, hor, hk⟩ := hrel
    obtain ⟨c1, f1, hd⟩ := HCELL.out _ _ _ hg
    have HSET := Lib.hid (hg.setCurr (j : Int))
    have HKSET := Lib.hid (hk.setCell (a := ⟨s.sb, 1, none⟩) (.int .i64 (j : Int)) (fun _ => rfl))
    have HG := Lib.hid hg
    have HK := Lib.hid hk
    have HOR := Lib.hid hor
    clear hg hk hor
    by_cases hlt : j < n
    · obtain ⟨d, cd⟩ := hd j hlt
      clear hd
      go_wp2_with fail
      all_goals go_roundw
      all_goals first
        | (simp [intOf]; omega)
        | exact ⟨j + 1, _, _, by go_num, rfl, by omega, HSET.out, .inr ⟨j, hlt, rfl⟩, HKSET.out⟩
        | exact ⟨j + 1, _, _, by go_num, rfl, by omega, HG.out, HOR.out.elim (fun h => absurd h.2 (by omega)) (fun h => .inr h), HK.out⟩
    · obtain rfl : j = n := by omega
      obtain ⟨c, hc, rfl⟩ : ∃ c : Nat, c < j ∧ curr = (c : Int) := by
        rcases HOR.out with ⟨h1, _⟩ | h
        · exfalso; omega
        · exact h
      obtain ⟨u, hu⟩ := HNODE.out c hc
      have HU := Lib.hid hu
      clear hu hd HOR
      go_wp2_with fail
      go_ret
      exact ⟨c, u, rfl, HU.out, by simp [cget], HG.out, HK.out.mono (fun b _ h => .inl h)⟩
set_option maxHeartbeats 8000000 in
set_option maxRecDepth 100000 in
theorem satNext_more {B : Nat} {w : World} {G : PG} {s : SG} {pb cb base top m i : Nat} {C : PC} {u : Int} {c : Nat} (h : GI w s pb cb base top (m : Int) (i : Int) C) (hG : Plain B w pb G) (hU : UG G) (hl : ∀ u, u ∈ s.l ↔ u ∈ G.ids) (hu : s.l[i]? = some u) (hc : cget C u = some c) (hex : ∃ v ∈ s.l, cget C v = none) (hm : m + 1 < s.l.length) (hB : B ≤ s.sb ∧ B ≤ base) :
    Calls Tryz.prog 275 #[.pointer (some ⟨s.sb, 0, none⟩)] w (NextPost w s pb cb base top C (m + 1)) := by
  unfold NextPost
  obtain ⟨c0, c1, c2, c3, c4, c5, c6, c7, c8, f0, f1⟩ := h.cells
  have hsm := h.small
  have hl8 := h.l8
  have hnf := nilFrom pb
  have hcell : ∀ W cnt curr, GI W s pb cb base top cnt curr C → W.cell? ⟨s.sb, 1, none⟩ = some (.int .i64 curr) ∧ W.cell? ⟨s.sb, 2, none⟩ = some (.func (.func 54) #[.pointer (some ⟨s.sb, 3, none⟩)] #[]) ∧ W.cell? ⟨s.sb, 4, none⟩ = some (.map (some s.ib)) ∧ W.cell? ⟨s.sb, 6, none⟩ = some (.slice (some ⟨s.ab, 0, none⟩) s.l.length s.l.length) ∧ W.cell? ⟨s.sb, 7, none⟩ = some (gV pb) ∧ W.cell? ⟨s.sb, 8, none⟩ = some (.map (some cb)) ∧ W.frozen? ⟨s.sb, 1, none⟩ = false := fun W cnt curr h => by
    obtain ⟨c0, c1, c2, c3, c4, c5, c6, c7, c8, f0, f1⟩ := h.cells
    exact ⟨c1, c2, c4, c6, c7, c8, f1⟩
  have hstart : ∀ q, GI ((w.drewN q).setCell ⟨s.sb, 0, none⟩ (.int .i64 ((m : Int) + 1))) s pb cb base top ((m : Int) + 1) (i : Int) C ∧ Keep (fun b => b = s.sb ∨ (base ≤ b ∧ b < top)) w ((w.drewN q).setCell ⟨s.sb, 0, none⟩ (.int .i64 ((m : Int) + 1))) := fun q =>
    ⟨(h.keepF ((Keep.refl _ w).drewN q)).setCnt _, ((Keep.refl (fun b => b = s.sb ∨ (base ≤ b ∧ b < top)) w).drewN q).setCell (a := ⟨s.sb, 0, none⟩) _ (fun _ => .inl rfl)⟩
  have hP : ∀ W, Keep (fun b => b = s.sb ∨ (base ≤ b ∧ b < top)) w W → Plain B W pb G := fun W hk => hG.keep hk (fun b hb => by omega)
  obtain ⟨gi, hgi⟩ := List.mem_iff_getElem?.1 ((hl u).1 (List.mem_of_getElem? hu))
  have hnl := PG.nbr_length hU.ok hgi
  have hfr : ∀ W, Keep (fun b => b = s.sb ∨ (base ≤ b ∧ b < top)) w W → Calls Tryz.prog 257 #[uV pb, .int .i64 u] W fun e w' => ∃ it g, e = .returned (.iface 284 (.pointer (some ⟨it, 0, none⟩))) ∧ Iter w' it g ((G.nbr gi).map nodeV) 0 ∧ W.heap.size ≤ it ∧ W.heap.size ≤ g ∧ Keep (fun _ => False) W w' := fun W hk => From_any (hP W hk) hgi W (Keep.refl _ _)
  have hidx : ∀ v ∈ G.nbr gi, ∃ j, j < s.l.length ∧ ∀ (W : World) (cnt curr : Int), GI W s pb cb base top cnt curr C → (Instr.lookup 83 (.map (some s.ib)) (.int .i64 v) false).run Tryz.prog W = .ok (.int .i64 (j : Int)) W := fun v hv => by
    obtain ⟨j, hj⟩ := List.mem_iff_getElem?.1 ((hl v).2 (PG.adj_mem ((PG.mem_nbr hU.ok hgi v).1 hv)).2)
    exact ⟨j, (List.getElem?_eq_some_iff.1 hj).1, fun W cnt curr hg => hg.lookup hj⟩
  have hds : ∀ W cnt curr, GI W s pb cb base top cnt curr C → Keep (fun b => b = s.sb ∨ (base ≤ b ∧ b < top)) w W → Calls Tryz.prog 54 #[.pointer (some ⟨s.sb, 3, none⟩)] W fun e w' => ∃ (i2 : Nat) (u2 : Int), e = .returned (.int .i64 (i2 : Int)) ∧ s.l[i2]? = some u2 ∧ cget C u2 = none ∧ i2 ≠ i ∧ Keep (fun _ => False) W w' := fun W cnt curr hg hk => by
    obtain ⟨wk, hs⟩ := hg.sat
    refine (dsatur_spec (hP W hk) hs hg.col (fun u hu => (hl u).1 hu)).mono ?_
    rintro e w' ⟨r, rfl, hor, hk'⟩
    rcases hor with ⟨_, hall⟩ | ⟨i2, u2, rfl, h1, h2⟩
    · obtain ⟨v, hv, hv2⟩ := hex
      have := hall v hv
      rw [hv2] at this; cases this
    · exact ⟨i2, u2, rfl, h1, h2, (fun e => by subst e; rw [hu] at h1; cases h1; rw [hc] at h2; cases h2), hk'⟩
  have hg0 : kget (ckv C) u = some (.int .i64 (c : Int)) := by rw [kget_ckv, hc]; rfl
  have hnode := fun W cnt (hg : GI W s pb cb base top cnt (i : Int) C) => satNode_spec hg hu
  have HCELL := Lib.hid hcell
  have HSTART := Lib.hid hstart
  have HFR := Lib.hid hfr
  have HIDX := Lib.hid hidx
  have HDS := Lib.hid hds
  have HG0 := Lib.hid hg0
  have HNODE := Lib.hid hnode
  unfold SG.nodesV at c3
  clear h hcell hstart hP hfr hidx hds hg0 hnode c1 c2 c4 c5 c6 c7 c8 hG hU hl hu hc hex
  have hmn : s.l.length ≤ 1000 := hsm
  have d1 : (((m : Int) + 1) == 0) = false := by simp; omega
  go_enter Tryz.func275, Tryz.ntmps275
  generalize hnn : s.l.length = n at *
  go_wp2_with fail
  go_quiet (fail)
  go_upto_region 4 with fail
  obtain ⟨hg, hk⟩ := HSTART.out nq
  generalize ((w.drewN nq).setCell ⟨s.sb, 0, none⟩ (.int .i64 ((m : Int) + 1))) = w1 at *
  obtain ⟨c1, c2, c4, c6, c7, c8, f1⟩ := HCELL.out _ _ _ hg
  have HG := Lib.hid hg
  have HK := Lib.hid hk
  clear hg hk HSTART c0 c3 f0
  go_wp2_with (first
    | (((with_reducible refine (HNODE.out _ _ HG.out).mono ?_); rintro e w2 ⟨rfl, q, rfl⟩))
    | (((with_reducible refine (ID_at _ _).mono ?_); rintro e w3 ⟨rfl, rfl⟩))
    | (at_lookup; refine wpList_lookup_kv rfl _ _ _ _ rfl 2 3 Tryz.underlying83 Tryz.underlying2 (.int .i64 0) zeroI cb _ u rfl rfl (HG.out.col.keepF ((Keep.refl _ w1).drewN q)) ?_; rw [HG0.out])
    | (((with_reducible refine (HFR.out _ (HK.out.drewN q)).mono ?_); rintro e w3 ⟨it, g, rfl, hi, h1, h2, hk3⟩); have HI := Lib.hid hi; have HK3 := Lib.hid ((HK.out.drewN q).trans hk3 (fun _ _ h => h.elim)); have HG3 := Lib.hid ((HG.out.keepF ((Keep.refl _ w1).drewN q)).keepF hk3); have htop : w.heap.size ≤ it ∧ w.heap.size ≤ g := (by have := HK.out.size; have h1' : w1.heap.size ≤ it := h1; have h2' : w1.heap.size ≤ g := h2; omega); clear hi hk3 h1 h2 c1 c2 c4 c6 c7 c8 f1))
  obtain ⟨ht1, ht2⟩ := htop
  clear HG HK HNODE HFR HG0
  generalize hmm : G.nbr gi = nb at *
  clear hmm
  go_loopg [] (nb.length + 1) (fun gk wr => ∃ t : Nat, t + gk = nb.length + 1 ∧ t ≤ nb.length ∧ Iter wr it g (nb.map nodeV) t ∧ GI wr s pb cb base top ((m : Int) + 1) (i : Int) C ∧ Keep (fun b => b = s.sb ∨ (base ≤ b ∧ b < top)) w wr)
  case atStart => exact ⟨0, by omega, by omega, HI.out, HG3.out, HK3.out⟩
  case round =>
    obtain ⟨t, hgk, htm, hi, hg, hk⟩ := hrel
    clear HI HG3 HK3
    have HI := Lib.hid hi
    have HG := Lib.hid hg
    have HK := Lib.hid hk
    have HGK := Lib.hid hgk
    have hl1 := hg.l1
    have hl5 := hg.l5
    clear hi hk hgk hg
    by_cases hlt : t < nb.length
    · obtain ⟨v, hv⟩ : ∃ v, nb[t]? = some v := ⟨_, List.getElem?_eq_getElem hlt⟩
      obtain ⟨j, hj, hlk⟩ := HIDX.out v (List.mem_of_getElem? hv)
      have HV := Lib.hid hv
      have HLK := Lib.hid hlk
      clear hv hlk
      go_upto_region 8 with (first
        | (((with_reducible refine (Next_true HI.out hlt).mono ?_); rintro e w4 ⟨rfl, hi4, hk4, hs4⟩); have hg4 := HG.out.keep hk4 (fun b hb => by omega); obtain ⟨c1, c2, c4, c6, c7, c8, f1⟩ := HCELL.out _ _ _ hg4; clear c1 c2 c7 c8 f1; obtain ⟨a, ks, ca, hset, hab, hne⟩ := hg4.set (i := j) (by rw [hnn]; exact hj); have HSET := Lib.hid hset; have HG4 := Lib.hid hg4; have HI4 := Lib.hid hi4; have HK4 := Lib.hid (HK.out.trans hk4 (fun b hb h => by omega)); clear hset hg4 hi4 hk4))
      have hfin : ∀ w6, SetAt w6 a (sadd ks (c : Int)) → Keep (fun b => b = a) w4 w6 → ∃ t' : Nat, t' + (gk - 1) = nb.length + 1 ∧ t' ≤ nb.length ∧ Iter w6 it g (nb.map nodeV) t' ∧ GI w6 s pb cb base top ((m : Int) + 1) (i : Int) C ∧ Keep (fun b => b = s.sb ∨ (base ≤ b ∧ b < top)) w w6 := fun w6 h6 hk6 =>
        ⟨t + 1, by have := HGK.out; omega, by omega, HI4.out.keep hk6 (by omega) (by omega), HG4.out.add hab hne hk6 h6, HK4.out.trans hk6 (fun b _ h => .inr (by omega))⟩
      have hkd : ∀ q, Keep (fun _ => False) w4 (w4.drewN q) := fun q => (Keep.refl _ w4).drewN q
      have HFIN := Lib.hid hfin
      have HKD := Lib.hid hkd
      have hgp : 0 < gk := by have := HGK.out; omega
      clear hfin hkd
      go_region_with (first
        | (((with_reducible refine (Node_at (HI4.out.keep ((Keep.refl (fun _ => False) w4).drew) (fun h => h) (fun h => h)) HV.out).mono ?_); rintro e w5 ⟨rfl, q, rfl⟩); have hlk := HLK.out _ _ _ (HG4.out.keepF (HKD.out (1 + q))); have HSET2 := Lib.hid (HSET.out.keep (HKD.out (1 + q)) (fun h => h)))
        | (((with_reducible refine (ID_at _ _).mono ?_); rintro e w5 ⟨rfl, rfl⟩))
        | (((with_reducible refine (AddI_spec HSET2.out _).mono ?_); rintro e w6 ⟨rfl, h6, hk6, hs6⟩); have H6 := Lib.hid h6; have HK6 := Lib.hid ((HKD.out (1 + q) |>.mono (T := fun b => b = a) (fun _ _ h => h.elim)).trans hk6 (fun _ _ h => h)); clear h6 hk6 hs6))
      all_goals (go_wp2_with fail)
      all_goals go_roundg (gk - 1)
      all_goals first
        | exact HFIN.out _ H6.out HK6.out
        | omega
    · obtain rfl : t = nb.length := by omega
      go_wp2_with (first
        | (((with_reducible refine (Next_false HI.out).mono ?_); rintro e w4 ⟨rfl, hk4, hs4⟩); have hg4 := HG.out.keep hk4 (fun b hb => by omega); obtain ⟨c1, c2, c4, c6, c7, c8, f1⟩ := HCELL.out _ _ _ hg4; clear c1 c4 c6 c7 c8 f1; have HG4 := Lib.hid hg4; have HK4 := Lib.hid (HK.out.trans hk4 (fun b hb h => by omega)); clear hg4 hk4)
        | (((with_reducible refine (HDS.out _ _ _ HG4.out HK4.out).mono ?_); rintro e w5 ⟨i2, u2, rfl, h1, h2, h3, hk5⟩); have hg5 := HG4.out.keepF hk5; obtain ⟨c1, c2, c4, c6, c7, c8, f1⟩ := HCELL.out _ _ _ hg5; clear c2 c4 c6 c7 c8; have HG5 := Lib.hid hg5; have HK5 := Lib.hid (HK4.out.trans hk5 (fun _ _ h => h.elim)); have HU2 := Lib.hid h1; have HN2 := Lib.hid h2; have d2 : ((i2 : Int) == (i : Int)) = false := (by rw [beq_eq_false_iff_ne]; omega); have d3 : decide ((i2 : Int) < 0) = false := (by rw [decide_eq_false_iff_not]; omega); clear hg5 hk5 h1 h2))
      go_ret
      exact ⟨i2, u2, rfl, HU2.out, HN2.out, by have := HG5.out.setCurr (i2 : Int); rw [show ((m + 1 : Nat) : Int) = (m : Int) + 1 by omega]; exact this, HK5.out.setCell (a := ⟨s.sb, 1, none⟩) _ (fun _ => .inl rfl)⟩
set_option maxHeartbeats 8000000 in
set_option maxRecDepth 100000 in
theorem satNext_last {w : World} {s : SG} {pb cb base top m : Nat} {C : PC} {curr : Int} (h : GI w s pb cb base top (m : Int) curr C) (hn : s.l.length = m + 1) :
    Calls Tryz.prog 275 #[.pointer (some ⟨s.sb, 0, none⟩)] w fun e w' => e = .returned (.bool false) ∧ (∃ cnt, GI w' s pb cb base top cnt curr C) ∧ Keep (fun b => b = s.sb) w w' := by
  obtain ⟨c0, c1, c2, c3, c4, c5, c6, c7, c8, f0, f1⟩ := h.cells
  have hsm := h.small
  have hstart : ∀ (q : Nat) (x : Int), (∃ cnt, GI ((w.drewN q).setCell ⟨s.sb, 0, none⟩ (.int .i64 x)) s pb cb base top cnt curr C) ∧ Keep (fun b => b = s.sb) w ((w.drewN q).setCell ⟨s.sb, 0, none⟩ (.int .i64 x)) := fun q x =>
    ⟨⟨_, (h.keepF ((Keep.refl _ w).drewN q)).setCnt x⟩, ((Keep.refl (fun b => b = s.sb) w).drewN q).setCell (a := ⟨s.sb, 0, none⟩) _ (fun _ => rfl)⟩
  unfold SG.nodesV at c3
  have HSTART := Lib.hid hstart
  clear h hstart c1 c2 c4 c5 c6 c7 c8
  generalize hnn : s.l.length = n at *
  subst hn
  clear hnn
  go_enter Tryz.func275, Tryz.ntmps275
  go_wp2_with fail
  go_quiet (fail)
  go_wp2_with fail
  go_ret
  exact ⟨rfl, (HSTART.out _ _).1, (HSTART.out _ _).2⟩
end Go.Proofs.YtdaccgelmcmfjaaGreatDoor
