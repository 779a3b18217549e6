/- coloring.RecursiveLargestFirst on two nodes that are joined. -/
import Derived.Test.YtdaccgelmcmfjaaGreatDoorJQ1
import Derived.Test.YtdaccgelmcmfjaaGreatDoorN6
import Derived.Test.YtdaccgelmcmfjaaGreatDoorJN3
import Derived.Laws.CopyOwn
set_option linter.all false
section
namespace Go.Proofs.YtdaccgelmcmfjaaGreatDoor
open Go.RowKit Go.V
structure RO (w : World) (B bg pb bn nb noff nc bi ib : Nat) (G : PG) (u0 u1 : Int) : Prop where
  g : w.heap[bg]? = some (.cells #[gV pb] 126 (0, 0))
  n : w.heap[bn]? = some (.cells #[.slice (some ⟨nb, noff, none⟩) 2 nc] 61 (0, 0))
  n0 : w.cell? ⟨nb, noff, none⟩ = some (nodeV u0)
  n1 : w.cell? ⟨nb, noff + 1, none⟩ = some (nodeV u1)
  i : w.heap[bi]? = some (.cells #[.map (some ib)] 83 (0, 0))
  ix : ∃ IX, ColAt w ib IX ∧ cget IX u0 = some 0 ∧ cget IX u1 = some 1
  p : Plain B w pb G
theorem RO.keep {S : Nat → Prop} {w w' : World} {B bg pb bn nb noff nc bi ib : Nat} {G : PG} {u0 u1 : Int} (h : RO w B bg pb bn nb noff nc bi ib G u0 u1) (hk : Keep S w w') (h1 : ¬ S bg) (h2 : ¬ S bn) (h3 : ¬ S nb) (h4 : ¬ S bi) (h5 : ¬ S ib) (h6 : ∀ b, S b → B ≤ b) : RO w' B bg pb bn nb noff nc bi ib G u0 u1 :=
  ⟨hk.get h.g h1, hk.get h.n h2, by rw [hk.cell (a := ⟨nb, noff, none⟩) (World.block_lt_of_cell? _ _ h.n0) h3]; exact h.n0, by rw [hk.cell (a := ⟨nb, noff + 1, none⟩) (World.block_lt_of_cell? _ _ h.n1) h3]; exact h.n1, hk.get h.i h4, (let ⟨IX, a, b⟩ := h.ix; ⟨IX, a.keep hk h5, b⟩), h.p.keep hk h6⟩
theorem RO.keepF {w w' : World} {B bg pb bn nb noff nc bi ib : Nat} {G : PG} {u0 u1 : Int} (h : RO w B bg pb bn nb noff nc bi ib G u0 u1) (hk : Keep (fun _ => False) w w') : RO w' B bg pb bn nb noff nc bi ib G u0 u1 := h.keep hk (fun h => h) (fun h => h) (fun h => h) (fun h => h) (fun h => h) (fun _ h => h.elim)
theorem RO.cells {w : World} {B bg pb bn nb noff nc bi ib : Nat} {G : PG} {u0 u1 : Int} (h : RO w B bg pb bn nb noff nc bi ib G u0 u1) : w.cell? ⟨bg, 0, none⟩ = some (gV pb) ∧ w.cell? ⟨bn, 0, none⟩ = some (.slice (some ⟨nb, noff, none⟩) 2 nc) ∧ w.cell? ⟨bi, 0, none⟩ = some (.map (some ib)) := by
  refine ⟨?_, ?_, ?_⟩
  · rw [cell_of h.g]; rfl
  · rw [cell_of h.n]; rfl
  · rw [cell_of h.i]; rfl
def Vec (w : World) (v : Nat) (x y : Int) : Prop := w.heap[v]? = some (.cells #[.int .i64 x, .int .i64 y] 3 (0, 0))
theorem Vec.keep {S : Nat → Prop} {w w' : World} {v : Nat} {x y : Int} (h : Vec w v x y) (hk : Keep S w w') (hn : ¬ S v) : Vec w' v x y := hk.get h hn
theorem Vec.cells {w : World} {v : Nat} {x y : Int} (h : Vec w v x y) : w.cell? ⟨v, 0, none⟩ = some (.int .i64 x) ∧ w.cell? ⟨v, 1, none⟩ = some (.int .i64 y) ∧ w.frozen? ⟨v, 0, none⟩ = false ∧ w.frozen? ⟨v, 1, none⟩ = false := by
  refine ⟨?_, ?_, free_of h 0, free_of h 1⟩ <;> (rw [cell_of h]; rfl)
theorem Vec.set0 {w : World} {v : Nat} {x y : Int} (h : Vec w v x y) (z : Int) : Vec (w.setCell ⟨v, 0, none⟩ (.int .i64 z)) v z y := by unfold Vec; rw [heapV_setCell h]; rfl
theorem Vec.set1 {w : World} {v : Nat} {x y : Int} (h : Vec w v x y) (z : Int) : Vec (w.setCell ⟨v, 1, none⟩ (.int .i64 z)) v x z := by unfold Vec; rw [heapV_setCell h]; rfl
def del2 (k : Nat) (x y : Int) : Int × Int := if k = 0 then (-1, y - 1) else (x - 1, -1)
theorem RO.lookup {w : World} {B bg pb bn nb noff nc bi ib : Nat} {G : PG} {u0 u1 : Int} (h : RO w B bg pb bn nb noff nc bi ib G u0 u1) : (Instr.lookup 83 (.map (some ib)) (.int .i64 u0) false).run Tryz.prog w = .ok (.int .i64 ((0 : Nat) : Int)) w ∧ (Instr.lookup 83 (.map (some ib)) (.int .i64 u1) false).run Tryz.prog w = .ok (.int .i64 ((1 : Nat) : Int)) w := by
  obtain ⟨IX, hx, h0, h1⟩ := h.ix
  constructor
  · rw [run_lookup_int Tryz.underlying83 Tryz.underlying2 hx u0 (zeroI w) false, kget_ckv, h0]; rfl
  · rw [run_lookup_int Tryz.underlying83 Tryz.underlying2 hx u1 (zeroI w) false, kget_ckv, h1]; rfl
theorem del_case {w : World} {B bg pb bn nb noff nc bi ib v k : Nat} {G : PG} {u0 u1 x y : Int} (hv : Vec w v x y) (h0 : G.ids[0]? = some u0) (h1 : G.ids[1]? = some u1) (hn0 : G.nbr 0 = [u1]) (hn1 : G.nbr 1 = [u0]) (hk : k < 2) (hx : -5 ≤ x ∧ x ≤ 5) (hy : -5 ≤ y ∧ y ≤ 5) :
    ∃ (uk uo z : Int) (o : Nat), o < 2 ∧ (-5 ≤ z ∧ z ≤ 5) ∧ G.ids[k]? = some uk ∧ G.nbr k = [uo] ∧ (∀ W, RO W B bg pb bn nb noff nc bi ib G u0 u1 → W.cell? ⟨nb, noff + k, none⟩ = some (nodeV uk) ∧ (Instr.lookup 83 (.map (some ib)) (.int .i64 uo) false).run Tryz.prog W = .ok (.int .i64 (o : Int)) W) ∧
      (∃ p, w.cell? ⟨v, k, none⟩ = some p) ∧ w.frozen? ⟨v, k, none⟩ = false ∧ (∀ W, Keep (fun _ => False) (w.setCell ⟨v, k, none⟩ (.int .i64 (-1))) W → W.cell? ⟨v, o, none⟩ = some (.int .i64 z) ∧ W.frozen? ⟨v, o, none⟩ = false ∧ Vec (W.setCell ⟨v, o, none⟩ (.int .i64 (z - 1))) v (del2 k x y).1 (del2 k x y).2) := by
  obtain ⟨c0, c1, f0, f1⟩ := hv.cells
  rcases (show k = 0 ∨ k = 1 by omega) with rfl | rfl
  · refine ⟨u0, u1, y, 1, by decide, hy, h0, hn0, fun W h => ⟨h.n0, h.lookup.2⟩, ⟨_, c0⟩, f0, fun W hkw => ?_⟩
    have hv1 : Vec W v (-1) y := (hv.set0 (-1)).keep hkw (fun h => h)
    obtain ⟨_, d1, _, g1⟩ := hv1.cells
    exact ⟨d1, g1, hv1.set1 (y - 1)⟩
  · refine ⟨u1, u0, x, 0, by decide, hx, h1, hn1, fun W h => ⟨h.n1, h.lookup.1⟩, ⟨_, c1⟩, f1, fun W hkw => ?_⟩
    have hv1 : Vec W v x (-1) := (hv.set1 (-1)).keep hkw (fun h => h)
    obtain ⟨d0, _, g0, _⟩ := hv1.cells
    exact ⟨d0, g0, hv1.set0 (x - 1)⟩
set_option maxHeartbeats 8000000 in
set_option maxRecDepth 20000 in
theorem deleteFrom_spec {w : World} {B bg pb bn nb noff nc bi ib v c k : Nat} {G : PG} {u0 u1 x y : Int} (h : RO w B bg pb bn nb noff nc bi ib G u0 u1) (hv : Vec w v x y) (h0 : G.ids[0]? = some u0) (h1 : G.ids[1]? = some u1) (hn0 : G.nbr 0 = [u1]) (hn1 : G.nbr 1 = [u0]) (hk : k < 2)
    (hx : -5 ≤ x ∧ x ≤ 5) (hy : -5 ≤ y ∧ y ≤ 5) (n1 : v ≠ bg) (n2 : v ≠ bn) (n3 : v ≠ nb) (n4 : v ≠ bi) (n5 : v ≠ ib) (n6 : B ≤ v) :
    Calls Tryz.prog 113 #[.slice (some ⟨v, 0, none⟩) 2 c, .int .i64 (k : Int), .pointer (some ⟨bg, 0, none⟩), .pointer (some ⟨bn, 0, none⟩), .pointer (some ⟨bi, 0, none⟩)] w fun e w' => e = .returned (.tuple #[]) ∧ Vec w' v (del2 k x y).1 (del2 k x y).2 ∧ Keep (fun b => b = v) w w' := by
  have hnf := nilFrom pb
  obtain ⟨uk, uo, z, o, ho2, hz, hid, hnb, hcn, ⟨p0, cv⟩, fv, hfin⟩ := del_case (B := B) (bg := bg) (pb := pb) (bn := bn) (nb := nb) (noff := noff) (nc := nc) (bi := bi) (ib := ib) hv h0 h1 hn0 hn1 hk hx hy
  have hvl := lt_of_get hv
  have hro : ∀ W, Keep (fun b => b = v) w W → RO W B bg pb bn nb noff nc bi ib G u0 u1 := fun W hk => h.keep hk (Ne.symm n1) (Ne.symm n2) (Ne.symm n3) (Ne.symm n4) (Ne.symm n5) (fun b hb => by rw [hb]; exact n6)
  have hfr : ∀ W, Keep (fun b => b = v) w W → Calls Tryz.prog 257 #[uV pb, .int .i64 uk] W fun e w' => ∃ tv, e = .returned tv ∧ FromAt W w' tv [uo] := fun W hk => by
    refine (From_any (hro W hk).p hid W (Keep.refl _ _)).mono ?_
    rintro e w' ⟨it, g, rfl, q1, q2, q3, q4⟩
    rw [hnb] at q1
    exact ⟨_, rfl, it, g, rfl, q1, q2, q3, q4⟩
  have HRO := Lib.hid hro
  have HFR := Lib.hid hfr
  have HCN := Lib.hid hcn
  have HFIN := Lib.hid hfin
  have HKW := Lib.hid (((Keep.refl (fun b => b = v) w).setCell (a := ⟨v, k, none⟩) (.int .i64 (-1)) (fun _ => rfl)))
  clear h hv h0 h1 hn0 hn1 hro hfr hcn hfin hid hnb hx hy
  go_enter Tryz.func113, Tryz.ntmps113
  go_upto_region 1 with fail
  generalize (w.setCell ⟨v, k, none⟩ (.int .i64 (-1))) = w1 at *
  clear cv fv
  have hr1 := HRO.out _ HKW.out
  obtain ⟨c0, c1, c2⟩ := hr1.cells
  obtain ⟨cn, _⟩ := HCN.out _ hr1
  clear hr1
  go_upto_region 1 with fail; go_cut [7] from 11 to 20 (fun tv wx => FromAt w1 wx tv [uo]); case first => (go_region_with (first | (((with_reducible refine (ID_spec _ _).mono ?_); rintro e w3 ⟨rfl, rfl⟩)) | (((with_reducible refine (HFR.out _ (HKW.out.drew)).mono ?_); rintro e w3 ⟨tv, rfl, hto⟩))); all_goals (go_wp2_with fail); all_goals go_meet; all_goals exact FromAt.undrew hto)
  case rest =>
    obtain ⟨it, g, rfl, hi, hl1, hl2, hk2⟩ := hcut
    have hw1 := HKW.out.size
    have HI := Lib.hid hi
    have HK2 := Lib.hid hk2
    clear c0 c1 c2 cn hi hk2
    go_wp2_with fail
    refine wp_loop_rounds 2 ?_
    rw [rounds_succ]
    go_upto_region 3 with (first
      | (((with_reducible refine (Next_true (l := [uo]) HI.out (by simp)).mono ?_); rintro e w4 ⟨rfl, hi4, hk4, hs4⟩); have HI4 := Lib.hid hi4; have HK4 := Lib.hid (HK2.out.trans hk4 (fun b hb h => by omega)); clear hi4 hk4))
    have hr4 := HRO.out _ (HKW.out.trans HK4.out (fun _ _ h => h.elim))
    obtain ⟨c0, c1, c2⟩ := hr4.cells
    obtain ⟨d1, g1, _⟩ := HFIN.out _ HK4.out
    have hr5 := fun q => HRO.out _ ((HKW.out.trans HK4.out (fun _ _ h => h.elim)).drewN q)
    have hlk := fun q => (HCN.out _ (hr5 q)).2
    have HK40 := fun q => HK4.out.drewN q
    have hd5 := fun q => HFIN.out _ (HK40 q)
    have HLK := Lib.hid hlk
    have HD5 := Lib.hid hd5
    have hpre := hr4.lookup
    clear hr4 hr5 hlk HK40 hd5 hpre
    go_region_with (first
      | (((with_reducible refine (Node_at (HI4.out.keep ((Keep.refl (fun _ => False) w4).drew) (fun h => h) (fun h => h)) (u := uo) rfl).mono ?_); rintro e w5 ⟨rfl, q, rfl⟩); have hlk := HLK.out (1 + q); obtain ⟨d1', g1', _⟩ := HD5.out (1 + q))
      | (((with_reducible refine (ID_at _ _).mono ?_); rintro e w5 ⟨rfl, rfl⟩)))
    all_goals (go_wp2_with fail)
    all_goals
      have hvec := (HD5.out (1 + q)).2.2
      have hkv : Keep (fun b => b = v) w ((w4.drewN (1 + q)).setCell ⟨v, o, none⟩ (.int .i64 (z - 1))) := ((HKW.out.trans HK4.out (fun _ _ h => h.elim)).drewN (1 + q)).setCell (a := ⟨v, o, none⟩) _ (fun _ => rfl)
      have hi6 : Iter ((w4.drewN (1 + q)).setCell ⟨v, o, none⟩ (.int .i64 (z - 1))) it g ([uo].map nodeV) 1 := HI4.out.keep (((Keep.refl (fun b => b = v) w4).drewN (1 + q)).setCell (a := ⟨v, o, none⟩) _ (fun _ => rfl)) (show ¬ it = v by omega) (show ¬ g = v by omega)
      have HVEC := Lib.hid hvec
      have HKV := Lib.hid hkv
      have HI6 := Lib.hid (Next_false (l := [uo]) hi6)
      clear hvec hkv hi6 d1' g1' hlk
      rw [rounds_succ]
      go_wp2_with (first
        | (((with_reducible refine (HI6.out).mono ?_); rintro e w7 ⟨rfl, hk7, hs7⟩); have HK7 := Lib.hid hk7; clear hk7))
      go_end0
      exact ⟨rfl, HVEC.out.keep HK7.out (show ¬ v = it by omega), HKV.out.trans HK7.out (fun b hb h => by omega)⟩
end Go.Proofs.YtdaccgelmcmfjaaGreatDoor
end
/- coloring.RecursiveLargestFirst on two nodes that are joined: what stands between its parts. -/
section
namespace Go.Proofs.YtdaccgelmcmfjaaGreatDoor
open Go.RowKit Go.V
structure Ri (w : World) (B bg pb bn nb noff nc bi ib bb cb : Nat) (G : PG) (u0 u1 : Int) (k : Nat) : Prop where
  g : w.heap[bg]? = some (.cells #[gV pb] 126 (0, 0))
  n : w.heap[bn]? = some (.cells #[.slice (some ⟨nb, noff, none⟩) 2 nc] 61 (0, 0))
  n0 : w.cell? ⟨nb, noff, none⟩ = some (nodeV u0)
  n1 : w.cell? ⟨nb, noff + 1, none⟩ = some (nodeV u1)
  i : w.heap[bi]? = some (.cells #[.map (some ib)] 83 (0, 0))
  ix : ∃ IX, ColAt w ib IX ∧ (0 < k → cget IX u0 = some 0) ∧ (1 < k → cget IX u1 = some 1)
  p : Plain B w pb G
  v : ∃ x y, Vec w bb x y ∧ (0 < k → x = 1) ∧ (1 < k → y = 1)
  c : ColAt w cb []
def lay5 (w : World) (x0 x1 x2 x3 x4 : Obj) : World := ((((w.alloc x0).alloc x1).alloc x2).alloc x3).alloc x4
theorem lay5_at {w : World} {s : Nat} (hs : w.heap.size = s) (x0 x1 x2 x3 x4 : Obj) : (lay5 w x0 x1 x2 x3 x4).heap[s]? = some x0 ∧ (lay5 w x0 x1 x2 x3 x4).heap[s + 1]? = some x1 ∧ (lay5 w x0 x1 x2 x3 x4).heap[s + 1 + 1]? = some x2 ∧ (lay5 w x0 x1 x2 x3 x4).heap[s + 1 + 1 + 1]? = some x3 ∧ (lay5 w x0 x1 x2 x3 x4).heap[s + 1 + 1 + 1 + 1]? = some x4 ∧ Keep (fun _ => False) w (lay5 w x0 x1 x2 x3 x4) ∧ (lay5 w x0 x1 x2 x3 x4).heap.size = s + 5 := by
  subst hs
  unfold lay5
  refine ⟨?_, ?_, ?_, ?_, new_at' (by simp) x4, (((((Keep.refl _ w).alloc x0).alloc x1).alloc x2).alloc x3).alloc x4, by simp⟩
  · exact (heap_old (by simp <;> omega)).trans ((heap_old (by simp <;> omega)).trans ((heap_old (by simp <;> omega)).trans ((heap_old (by simp)).trans (heap_new w x0))))
  · exact (heap_old (by simp <;> omega)).trans ((heap_old (by simp <;> omega)).trans ((heap_old (by simp)).trans (new_at' (by simp) x1)))
  · exact (heap_old (by simp <;> omega)).trans ((heap_old (by simp)).trans (new_at' (by simp) x2))
  · exact (heap_old (by simp)).trans (new_at' (by simp) x3)
theorem ri_case {w : World} {B bg pb bn nb noff nc bi ib bb cb k : Nat} {G : PG} {u0 u1 : Int} (h : Ri w B bg pb bn nb noff nc bi ib bb cb G u0 u1 k) (hk : k < 2) (hids : G.ids = [u0, u1]) (hne : u0 ≠ u1) (hn0 : G.nbr 0 = [u1]) (hn1 : G.nbr 1 = [u0]) :
    ∃ u, G.ids[k]? = some u ∧ (G.nbr k).length = 1 ∧ w.cell? ⟨nb, noff + k, none⟩ = some (nodeV u) ∧ (∃ z, w.cell? ⟨bb, k, none⟩ = some (.int .i64 z)) ∧ w.frozen? ⟨bb, k, none⟩ = false ∧
      (∀ IX, (0 < k → cget IX u0 = some 0) ∧ (1 < k → cget IX u1 = some 1) → (0 < k + 1 → cget (cput IX u k) u0 = some 0) ∧ (1 < k + 1 → cget (cput IX u k) u1 = some 1)) ∧
      (∀ W x y, Vec W bb x y → (0 < k → x = 1) → ∃ x' y', Vec (W.setCell ⟨bb, k, none⟩ (.int .i64 1)) bb x' y' ∧ (0 < k + 1 → x' = 1) ∧ (1 < k + 1 → y' = 1)) := by
  obtain ⟨x, y, hv, hx, hy⟩ := h.v
  obtain ⟨d0, d1, f0, f1⟩ := hv.cells
  rcases (show k = 0 ∨ k = 1 by omega) with rfl | rfl
  · refine ⟨u0, by rw [hids]; rfl, by rw [hn0]; rfl, h.n0, ⟨x, d0⟩, f0, fun IX _ => ⟨fun _ => by rw [cget_cput, if_pos rfl], fun h => absurd h (by decide)⟩, fun W x y hW _ => ⟨1, y, hW.set0 1, fun _ => rfl, fun h => absurd h (by decide)⟩⟩
  · refine ⟨u1, by rw [hids]; rfl, by rw [hn1]; rfl, h.n1, ⟨y, d1⟩, f1, fun IX hI => ⟨fun _ => by rw [cget_cput, if_neg hne]; exact hI.1 (by decide), fun _ => by rw [cget_cput, if_pos rfl]⟩, fun W x y hW hx => ⟨x, 1, hW.set1 1, fun _ => hx (by decide), fun _ => rfl⟩⟩
theorem infoInt2 : (Tryz.prog.info? 3).map (fun i => (i.zero, i.size, i.bytes)) = some (some (.int .i64 0), 1, 8) := by kernel_rfl
theorem mkTwoX (W : World) : (Instr.makeSlice 22 (.int .i64 2) (.int .i64 2)).run Tryz.prog W = .ok (.slice (some ⟨W.heap.size, 0, none⟩) 2 2) (W.alloc (.cells #[.int .i64 0, .int .i64 0] 3 (0, 0))) := by
  obtain ⟨i, hi, hz, hsize, hby⟩ := info_parts infoInt2
  have hr := run_make (P := Tryz.prog) W 22 3 i _ Tryz.underlying22 hi hz .i64 .i64 2 2 (by omega) (Int.le_refl _) (by rw [hby]; omega) (by omega)
  have h2 : (2 : Int).toNat = 2 := rfl
  rw [h2] at hr
  rw [hr, hsize]
  have : madeCells (Value.int .i64 0).cells (2 * 1) = #[.int .i64 0, .int .i64 0] := by
    apply Array.ext_getElem?
    intro j
    match j with
    | 0 => simp [madeCells, Value.cells]
    | 1 => simp [madeCells, Value.cells]
    | j + 2 => simp [madeCells, Value.cells, Array.getElem?_map, Array.getElem?_range]
  rw [this]
theorem vec_copy {w : World} {va vb ca cb : Nat} {x y a b : Int} (ha : Vec w va a b) (hb : Vec w vb x y) :
    ∃ w', (Builtin.copy_ #[22, 22] 3 #[.slice (some ⟨va, 0, none⟩) 2 ca, .slice (some ⟨vb, 0, none⟩) 2 cb]).run Tryz.prog w = .ok (.int .i64 2) w' ∧ Vec w' va x y ∧ Keep (fun b => b = va) w w' := by
  obtain ⟨c0, c1, _, _⟩ := hb.cells
  refine ⟨_, run_copy_row (P := Tryz.prog) w 22 22 3 3 va 0 2 ca ⟨vb, 0, none⟩ 2 cb #[.int .i64 a, .int .i64 b] 3 [.int .i64 x, .int .i64 y] Tryz.underlying22 (by kernel_rfl) ha rfl (fun j v hj => ?_) (by simp) (by simp [Value.oneCell']), setRow_heap w va _ _ 3 _ ha, ⟨rfl, rfl, rfl, by simp [World.setRow], fun k hk hn => setRow_other w va k _ hn⟩⟩
  match j, hj with
  | 0, hj => obtain rfl : Value.int .i64 x = v := by simpa using hj
             simpa [Addr.add] using c0
  | 1, hj => obtain rfl : Value.int .i64 y = v := by simpa using hj
             simpa [Addr.add] using c1
def clr (u0 u1 : Int) (j : Nat) : PC := [(u0, 0), (u1, 1)].take j
theorem clr_put {u0 u1 : Int} (hne : u0 ≠ u1) : cput (clr u0 u1 0) u0 0 = clr u0 u1 1 ∧ cput (clr u0 u1 1) u1 1 = clr u0 u1 2 := by
  constructor
  · rfl
  · have h : (u0 == u1) = false := by simpa using hne
    simp [cput, clr, h]
theorem clr_get {u0 u1 : Int} (hne : u0 ≠ u1) : cget (clr u0 u1 2) u0 = some 0 ∧ cget (clr u0 u1 2) u1 = some 1 ∧ (0 : Nat) ≠ 1 := by
  rw [← (clr_put hne).2, ← (clr_put hne).1]
  refine ⟨by rw [cget_cput, if_neg hne, cget_cput, if_pos rfl], by rw [cget_cput, if_pos rfl], by decide⟩
def vx (j : Nat) : Int := if j = 0 then 1 else if j = 1 then -1 else -2
def vy (j : Nat) : Int := if j = 0 then 1 else if j = 1 then 0 else -1
structure RLS (W : World) (B bg pb bn nb noff nc bi ib bb cb ba : Nat) (G : PG) (u0 u1 : Int) (j : Nat) : Prop where
  ro : RO W B bg pb bn nb noff nc bi ib G u0 u1
  va : ∃ a b, Vec W ba a b
  vb : Vec W bb (vx j) (vy j)
  c : ColAt W cb (clr u0 u1 j)
theorem del_step {j : Nat} (hj : j < 2) : (del2 j (vx j) (vy j)).1 = vx (j + 1) ∧ (del2 j (vx j) (vy j)).2 = vy (j + 1) ∧ (-5 ≤ vx j ∧ vx j ≤ 5) ∧ (-5 ≤ vy j ∧ vy j ≤ 5) := by
  rcases (show j = 0 ∨ j = 1 by omega) with rfl | rfl <;> decide
theorem rls_case {G : PG} {u0 u1 : Int} {j B bg pb bn nb noff nc bi ib ba : Nat} (hj : j < 2) (hids : G.ids = [u0, u1]) (hne : u0 ≠ u1) (hn0 : G.nbr 0 = [u1]) (hn1 : G.nbr 1 = [u0]) :
    ∃ u uo : Int, G.ids[j]? = some u ∧ G.nbr j = [uo] ∧ cput (clr u0 u1 j) u j = clr u0 u1 (j + 1) ∧ (∀ W, RO W B bg pb bn nb noff nc bi ib G u0 u1 → W.cell? ⟨nb, noff + j, none⟩ = some (nodeV u) ∧ (Instr.lookup 83 (.map (some ib)) (.int .i64 uo) false).run Tryz.prog W = .ok (.int .i64 ((1 - j : Nat) : Int)) W) ∧
      (∀ W, Vec W ba (vx j) (vy j) → ∃ v, W.cell? ⟨ba, j, none⟩ = some (.int .i64 v) ∧ 0 ≤ v) := by
  obtain ⟨p1, p2⟩ := clr_put hne
  rcases (show j = 0 ∨ j = 1 by omega) with rfl | rfl
  · exact ⟨u0, u1, by rw [hids]; rfl, hn0, p1, fun W h => ⟨h.n0, h.lookup.2⟩, fun W h => ⟨1, h.cells.1, by decide⟩⟩
  · exact ⟨u1, u0, by rw [hids]; rfl, hn1, p2, fun W h => ⟨h.n1, h.lookup.1⟩, fun W h => ⟨0, h.cells.2.1, by decide⟩⟩
theorem Ri.step {w w' : World} {S : Nat → Prop} {B bg pb bn nb noff nc bi ib bb cb k : Nat} {G : PG} {u0 u1 : Int} {IX : PC} {x y : Int} (h : Ri w B bg pb bn nb noff nc bi ib bb cb G u0 u1 k) (hk : Keep S w w') (h1 : ¬ S bg) (h2 : ¬ S bn) (h3 : ¬ S nb) (h4 : ¬ S bi) (h5 : ¬ S cb) (h6 : ∀ b, S b → B ≤ b)
    (hx : ColAt w' ib IX) (hi : (0 < k + 1 → cget IX u0 = some 0) ∧ (1 < k + 1 → cget IX u1 = some 1)) (hv : Vec w' bb x y) (hv0 : 0 < k + 1 → x = 1) (hv1 : 1 < k + 1 → y = 1) : Ri w' B bg pb bn nb noff nc bi ib bb cb G u0 u1 (k + 1) :=
  ⟨hk.get h.g h1, hk.get h.n h2, by rw [hk.cell (a := ⟨nb, noff, none⟩) (World.block_lt_of_cell? _ _ h.n0) h3]; exact h.n0, by rw [hk.cell (a := ⟨nb, noff + 1, none⟩) (World.block_lt_of_cell? _ _ h.n1) h3]; exact h.n1, hk.get h.i h4, ⟨IX, hx, hi⟩, h.p.keep hk h6, ⟨x, y, hv, hv0, hv1⟩, h.c.keep hk h5⟩
theorem Ri.ro {w : World} {B bg pb bn nb noff nc bi ib bb cb : Nat} {G : PG} {u0 u1 : Int} (h : Ri w B bg pb bn nb noff nc bi ib bb cb G u0 u1 2) : RO w B bg pb bn nb noff nc bi ib G u0 u1 :=
  ⟨h.g, h.n, h.n0, h.n1, h.i, (let ⟨IX, a, b, c⟩ := h.ix; ⟨IX, a, b (by decide), c (by decide)⟩), h.p⟩
theorem Ri.vec {w : World} {B bg pb bn nb noff nc bi ib bb cb : Nat} {G : PG} {u0 u1 : Int} (h : Ri w B bg pb bn nb noff nc bi ib bb cb G u0 u1 2) : Vec w bb 1 1 := by
  obtain ⟨x, y, hv, hx, hy⟩ := h.v
  obtain rfl := hx (by decide)
  obtain rfl := hy (by decide)
  exact hv
end Go.Proofs.YtdaccgelmcmfjaaGreatDoor
end
