/- sort.Sort of two nodes with as many neighbours each. -/
import Derived.Test.YtdaccgelmcmfjaaGreatDoorJDE
import Derived.BigQuiet
import Derived.Test.YtdaccgelmcmfjaaGreatDoorJX1
set_option linter.all false
section
namespace Go.Proofs.YtdaccgelmcmfjaaGreatDoor
open Go.RowKit Go.V
set_option maxHeartbeats 4000000 in
set_option maxRecDepth 20000 in
theorem bdLen_spec (w : World) (a : Option Addr) (n c : Nat) (dv : Value) :
    Calls Tryz.prog 279 #[.agg #[.slice a n c, dv]] w fun e w' => e = .returned (.int .i64 (n : Int)) ∧ Keep (fun _ => False) w w' := by
  go_enter Tryz.func279, Tryz.ntmps279
  go_wp2_with fail
  go_ret
  exact ⟨rfl, (Keep.refl _ w).alloc _⟩
set_option maxHeartbeats 4000000 in
set_option maxRecDepth 20000 in
theorem bdLess_spec {w : World} {nv : Value} {d c : Nat} {x : Int} (h0 : w.cell? ⟨d, 0, none⟩ = some (.int .i64 x)) (h1 : w.cell? ⟨d, 1, none⟩ = some (.int .i64 x)) :
    Calls Tryz.prog 280 #[.agg #[nv, .slice (some ⟨d, 0, none⟩) 2 c], .int .i64 1, .int .i64 0] w fun e w' => e = .returned (.bool false) ∧ Keep (fun _ => False) w w' := by
  have c0 : ∀ o, (w.alloc o).cell? ⟨d, 0, none⟩ = some (.int .i64 x) := fun o => by rw [World.cell?_alloc_past _ _ _ (World.block_lt_of_cell? _ _ h0)]; exact h0
  have c1 : ∀ o, (w.alloc o).cell? ⟨d, 1, none⟩ = some (.int .i64 x) := fun o => by rw [World.cell?_alloc_past _ _ _ (World.block_lt_of_cell? _ _ h1)]; exact h1
  go_enter Tryz.func280, Tryz.ntmps280
  go_wp2_with fail
  go_quiet (fail)
  all_goals (go_wp2_with fail)
  go_ret
  exact ⟨rfl, ((Keep.refl _ w).alloc _).drewN _⟩
abbrev bdV (a : Option Addr) (nc d c : Nat) : Value := .agg #[.slice a 2 nc, .slice (some ⟨d, 0, none⟩) 2 c]
set_option maxHeartbeats 4000000 in
set_option maxRecDepth 20000 in
theorem insertion2_spec {w : World} {a : Option Addr} {nc d c : Nat} {x : Int} (h0 : w.cell? ⟨d, 0, none⟩ = some (.int .i64 x)) (h1 : w.cell? ⟨d, 1, none⟩ = some (.int .i64 x)) :
    Calls Tryz.prog 219 #[.iface 282 (bdV a nc d c), .int .i64 0, .int .i64 2] w fun e w' => e = .returned (.tuple #[]) ∧ Keep (fun _ => False) w w' := by
  have hl := bdLess_spec (nv := .slice a 2 nc) (c := c) h0 h1
  have HL := Lib.hid hl
  clear hl h0 h1
  go_enter Tryz.func219, Tryz.ntmps219
  go_wp2_with fail
  refine wp_loop_rounds 2 ?_
  rw [rounds_succ]
  go_wp2_with fail
  refine wp_loop_rounds 1 ?_
  rw [rounds_succ]
  go_wp2_with (first | (((with_reducible refine (HL.out).mono ?_); rintro e w1 ⟨rfl, hk⟩); have HK := Lib.hid hk; clear hk))
  rw [rounds_succ]
  go_wp2_with fail
  go_end0
  exact ⟨rfl, HK.out⟩
set_option maxHeartbeats 4000000 in
set_option maxRecDepth 20000 in
theorem pdq2_spec {w : World} {a : Option Addr} {nc d c : Nat} {x m : Int} (h0 : w.cell? ⟨d, 0, none⟩ = some (.int .i64 x)) (h1 : w.cell? ⟨d, 1, none⟩ = some (.int .i64 x)) :
    Calls Tryz.prog 212 #[.iface 282 (bdV a nc d c), .int .i64 0, .int .i64 2, .int .i64 m] w fun e w' => e = .returned (.tuple #[]) ∧ Keep (fun _ => False) w w' := by
  have hl := insertion2_spec (a := a) (nc := nc) (c := c) h0 h1
  have HL := Lib.hid hl
  clear hl h0 h1
  go_enter Tryz.func212, Tryz.ntmps212
  go_wp2_with fail
  refine wp_loop_rounds 1 ?_
  rw [rounds_succ]
  go_wp2_with (first | (((with_reducible refine (HL.out).mono ?_); rintro e w1 ⟨rfl, hk⟩); have HK := Lib.hid hk; clear hk))
  (try simp only [Exit.inBlock, Exit.then])
  refine bodyPost_ret (results_none rfl _ _ _) rfl ?_
  exact ⟨rfl, HK.out⟩
set_option maxHeartbeats 4000000 in
set_option maxRecDepth 20000 in
theorem len64_spec (w : World) : Calls Tryz.prog 85 #[.int .u64 2] w fun e w' => e = .returned (.int .i64 2) ∧ w' = w := by
  go_enter Tryz.func85, Tryz.ntmps85
  go_wp2_with fail
  go_ret
  exact ⟨by show Ending.returned (Value.int IntKind.i64 (wrap64 (wrap64 (Lib.len8 2)))) = _; kernel_rfl, rfl⟩
set_option maxHeartbeats 4000000 in
set_option maxRecDepth 20000 in
theorem bitsLen_spec (w : World) : Calls Tryz.prog 44 #[.int .u64 2] w fun e w' => e = .returned (.int .i64 2) ∧ w' = w := by
  go_enter Tryz.func44, Tryz.ntmps44
  go_wp2_with (first | (((with_reducible refine (len64_spec _).mono ?_); rintro e w1 ⟨rfl, rfl⟩)))
  go_ret
  exact ⟨rfl, rfl⟩
set_option maxHeartbeats 4000000 in
set_option maxRecDepth 20000 in
theorem sort2_spec {w : World} {a : Option Addr} {nc d c : Nat} {x : Int} (h0 : w.cell? ⟨d, 0, none⟩ = some (.int .i64 x)) (h1 : w.cell? ⟨d, 1, none⟩ = some (.int .i64 x)) :
    Calls Tryz.prog 191 #[.iface 282 (bdV a nc d c)] w fun e w' => e = .returned (.tuple #[]) ∧ Keep (fun _ => False) w w' := by
  have hp := fun W (hk : Keep (fun _ => False) w W) => pdq2_spec (w := W) (a := a) (nc := nc) (c := c) (m := 2) (x := x) (by rw [hk.cell (a := ⟨d, 0, none⟩) (World.block_lt_of_cell? _ _ h0) (fun h => h)]; exact h0) (by rw [hk.cell (a := ⟨d, 1, none⟩) (World.block_lt_of_cell? _ _ h1) (fun h => h)]; exact h1)
  have HP := Lib.hid hp
  clear hp h0 h1
  go_enter Tryz.func191, Tryz.ntmps191
  go_wp2_with (first
    | (((with_reducible refine (bdLen_spec _ _ _ _ _).mono ?_); rintro e w1 ⟨rfl, hk⟩); have HK := Lib.hid hk; clear hk)
    | (((with_reducible refine (bitsLen_spec _).mono ?_); rintro e w2 ⟨rfl, rfl⟩))
    | (((with_reducible refine (HP.out _ HK.out).mono ?_); rintro e w3 ⟨rfl, hk⟩); have HK3 := Lib.hid (HK.out.trans hk (fun _ _ h => h)); clear hk))
  go_end0
  exact ⟨rfl, HK3.out⟩
def Deg2 (W : World) (d : Nat) (x y : Int) : Prop := W.heap[d]? = some (.cells #[.int .i64 x, .int .i64 y] 3 (0, 0))
theorem Deg2.cells {W : World} {d : Nat} {x y : Int} (h : Deg2 W d x y) : W.cell? ⟨d, 0, none⟩ = some (.int .i64 x) ∧ W.cell? ⟨d, 1, none⟩ = some (.int .i64 y) ∧ ∀ i, W.frozen? ⟨d, i, none⟩ = false := by
  refine ⟨?_, ?_, free_of h⟩ <;> (rw [cell_of h]; rfl)
theorem Deg2.set0 {W : World} {d : Nat} {x y : Int} (h : Deg2 W d x y) (z : Int) : Deg2 (W.setCell ⟨d, 0, none⟩ (.int .i64 z)) d z y := by unfold Deg2; rw [heapV_setCell h]; rfl
theorem Deg2.set1 {W : World} {d : Nat} {x y : Int} (h : Deg2 W d x y) (z : Int) : Deg2 (W.setCell ⟨d, 1, none⟩ (.int .i64 z)) d x z := by unfold Deg2; rw [heapV_setCell h]; rfl
theorem Deg2.set {W : World} {d k : Nat} {x y : Int} (h : Deg2 W d x y) (hk : k < 2) (hx : 0 < k → x = 1) : ∃ x' y', Deg2 (W.setCell ⟨d, k, none⟩ (.int .i64 1)) d x' y' ∧ x' = 1 ∧ (1 < k + 1 → y' = 1) := by
  rcases (show k = 0 ∨ k = 1 by omega) with rfl | rfl
  · exact ⟨1, y, h.set0 1, rfl, fun h => absurd h (by decide)⟩
  · exact ⟨x, 1, h.set1 1, hx (by decide), fun _ => rfl⟩
theorem Deg2.at {W : World} {d k : Nat} {x y : Int} (h : Deg2 W d x y) (hk : k < 2) : ∃ z, W.cell? ⟨d, k, none⟩ = some (.int .i64 z) := by
  rcases (show k = 0 ∨ k = 1 by omega) with rfl | rfl
  · exact ⟨x, h.cells.1⟩
  · exact ⟨y, h.cells.2.1⟩
theorem two_new {w : World} (x y : Obj) : ((w.alloc x).alloc y).heap[w.heap.size]? = some x ∧ ((w.alloc x).alloc y).heap[w.heap.size + 1]? = some y ∧ Keep (fun _ => False) w ((w.alloc x).alloc y) ∧ ((w.alloc x).alloc y).heap.size = w.heap.size + 2 :=
  ⟨(heap_old (by simp)).trans (heap_new w x), new_at (by simp) y, ((Keep.refl _ w).alloc x).alloc y, by simp⟩
theorem byDesc_end {w w1 w2 wr w3 : World} {it g off cap : Nat} {l : List Int} (hl : l.length = 2) (hc : Cells w1 g off (l.map nodeV)) (hf : Free w1 g) (hle : 2 ≤ cap) (hmx : cap ≤ maxLen) (hgl : g < w.heap.size) (hgi : g ≠ it) (hw1 : w.heap.size ≤ w1.heap.size)
    (hk1 : Keep (fun b => b = it) w w1) (hk2 : Keep (fun _ => False) w1 w2) (hkr : Keep (fun b => b = w1.heap.size) w2 wr) (hk3 : Keep (fun _ => False) wr w3) :
    Iter (w3.alloc (.cells #[.int .i64 (-1), .slice (some ⟨g, off, none⟩) 2 cap] 303 (0, 0))) w3.heap.size g (l.map nodeV) 0 ∧ w.heap.size ≤ w3.heap.size ∧ Keep (fun b => b = it) w (w3.alloc (.cells #[.int .i64 (-1), .slice (some ⟨g, off, none⟩) 2 cap] 303 (0, 0))) := by
  have hka := (Keep.refl (fun _ => False) w3).alloc (.cells #[.int .i64 (-1), .slice (some ⟨g, off, none⟩) 2 cap] 303 (0, 0))
  have h13 : Keep (fun b => b = w1.heap.size) w1 (w3.alloc (.cells #[.int .i64 (-1), .slice (some ⟨g, off, none⟩) 2 cap] 303 (0, 0))) := (((hk2.mono (T := fun b => b = w1.heap.size) (fun _ _ h => h.elim)).trans hkr (fun b _ h => h)).trans hk3 (fun _ _ h => h.elim)).trans hka (fun _ _ h => h.elim)
  have hs := h13.size
  have h2 := hk2.size
  have h4 := hkr.size
  have h5 := hk3.size
  refine ⟨⟨off, cap, ?_, hc.keep h13 (show ¬ g = w1.heap.size by omega), show g ≠ w3.heap.size by omega, by rw [List.length_map, hl]; exact hle, hmx, hf.keep h13 (show ¬ g = w1.heap.size by omega)⟩, by omega, hk1.trans h13 (fun b hb h => by omega)⟩
  rw [List.length_map, hl]
  exact heap_new w3 _
set_option maxHeartbeats 8000000 in
set_option maxRecDepth 20000 in
theorem byDesc_spec {B it g pb : Nat} {w : World} {G : PG} {l : List Int} (hG : Plain B w pb G) (hl : G.ids = l) (hl2 : l.length = 2) (hi : Iter w it g (l.map nodeV) 0) (hn : ∀ i, i < 2 → (G.nbr i).length = 1) (hB : B ≤ it) :
    Calls Tryz.prog 157 #[.iface 284 (.pointer (some ⟨it, 0, none⟩)), gV pb] w fun e w' => ∃ it2, e = .returned (.iface 284 (.pointer (some ⟨it2, 0, none⟩))) ∧ Iter w' it2 g (l.map nodeV) 0 ∧ w.heap.size ≤ it2 ∧ Keep (fun b => b = it) w w' := by
  have hnf := nilFrom pb
  have hmi : ∀ W, (Instr.makeSlice 22 (.int .i64 2) (.int .i64 2)).run Tryz.prog W = .ok (.slice (some ⟨W.heap.size, 0, none⟩) 2 2) (W.alloc (.cells #[.int .i64 0, .int .i64 0] 3 (0, 0))) := fun W => mkInts W 2 (by decide)
  have hgl := hi.lt'
  have hitl := hi.lt
  have hgi : g ≠ it := by obtain ⟨_, _, _, _, h, _⟩ := hi; exact h
  have hno := (NodesOf_spec hi).mono (R' := fun e w' => ∃ off cap, e = .returned (.slice (some ⟨g, off, none⟩) 2 cap) ∧ Cells w' g off (l.map nodeV) ∧ 2 ≤ cap ∧ cap ≤ maxLen ∧ Free w' g ∧ Keep (fun b => b = it) w w') (by
    rintro e w1 ⟨v, rfl, hrow, hk1, hs1⟩
    rcases hrow with ⟨_, h0⟩ | ⟨off, cap, rfl, hcells, hle, hmx, hfree⟩
    · have := congrArg List.length h0; rw [List.length_map, hl2] at this; cases this
    · rw [List.length_map, hl2] at hle ⊢
      exact ⟨off, cap, rfl, hcells, hle, hmx, hfree, hk1⟩)
  have hids : ∀ k, k < 2 → ∃ u, l[k]? = some u := fun k hk => ⟨_, List.getElem?_eq_getElem (by omega)⟩
  have hfr : ∀ k u, k < 2 → l[k]? = some u → ∀ W, Keep (fun b => b = it ∨ w.heap.size ≤ b) w W → Calls Tryz.prog 257 #[uV pb, .int .i64 u] W fun e w' => ∃ it2 g2 xs, e = .returned (.iface 284 (.pointer (some ⟨it2, 0, none⟩))) ∧ xs.length = 1 ∧ Iter w' it2 g2 xs 0 ∧ Keep (fun _ => False) W w' := fun k u hk hu W hkw => by
    refine (From_any (hG.keep hkw (fun b hb => by rcases hb with rfl | hb; exact hB; omega)) (by rw [hl]; exact hu) W (Keep.refl _ _)).mono ?_
    rintro e w' ⟨it2, g2, rfl, h1, _, _, h4⟩
    exact ⟨it2, g2, _, rfl, by rw [List.length_map]; exact hn k hk, h1, h4⟩
  have HNO := Lib.hid hno
  have HIDS := Lib.hid hids
  have HFR := Lib.hid hfr
  have HLL := Lib.hid hl2
  clear hno hi hl hl2 hn hG hids hfr
  go_enter Tryz.func157, Tryz.ntmps157
  go_upto_region 3 with (first
    | (((with_reducible refine (HNO.out).mono ?_); rintro e w1 ⟨off, cap, rfl, hcells, hle, hmx, hfree, hk1⟩); have HC1 := Lib.hid hcells; have HF1 := Lib.hid hfree; have HK1 := Lib.hid hk1; clear hcells hfree hk1))
  obtain ⟨hd0, hb0, hk2, hs2⟩ := two_new (w := w1) (.cells #[.int .i64 0, .int .i64 0] 3 (0, 0)) (.cells #[.slice (some ⟨g, off, none⟩) 2 cap, .slice (some ⟨w1.heap.size, 0, none⟩) 2 2] 282 (0, 0))
  have hw1 := HK1.out.size
  have HD0 := Lib.hid (show Deg2 _ w1.heap.size 0 0 from hd0)
  have HB0 := Lib.hid hb0
  have HK2 := Lib.hid hk2
  clear hd0 hb0 hk2
  generalize ((w1.alloc (.cells #[.int .i64 0, .int .i64 0] 3 (0, 0))).alloc (.cells #[.slice (some ⟨g, off, none⟩) 2 cap, .slice (some ⟨w1.heap.size, 0, none⟩) 2 2] 282 (0, 0))) = w2 at *
  go_wp2_with fail
  go_loopw [18] (fun i wr => ∃ (k : Nat) (x y : Int), i = .int .i64 (k : Int) ∧ k ≤ 2 ∧ Deg2 wr w1.heap.size x y ∧ (0 < k → x = 1) ∧ (1 < k → y = 1) ∧ Keep (fun b => b = w1.heap.size) w2 wr) (fun i _ => 2 - (intOf i).toNat)
  case atStart => exact ⟨0, 0, 0, rfl, by omega, HD0.out, fun h => absurd h (by decide), fun h => absurd h (by decide), Keep.refl _ _⟩
  case round =>
    obtain ⟨k, x, y, rfl, hk2, hd, hx, hy, hk⟩ := hrel
    have HB := Lib.hid (hk.get HB0.out (show ¬ w1.heap.size + 1 = w1.heap.size by omega))
    have HKR := Lib.hid hk
    by_cases hlt : k < 2
    · obtain ⟨u, hu⟩ := HIDS.out k hlt
      have cn : wr.cell? ⟨g, off + k, none⟩ = some (nodeV u) := ((HC1.out.keep HK2.out (fun h => h)).keep hk (show ¬ g = w1.heap.size by omega)) k _ (by rw [List.getElem?_map, hu]; rfl)
      have hfr := fun W (hkw : Keep (fun _ => False) wr W) => HFR.out k u hlt hu W ((((HK1.out.mono (T := fun b => b = it ∨ w.heap.size ≤ b) (fun _ _ h => .inl h)).trans HK2.out (fun _ _ h => h.elim)).trans hk (fun b _ h => .inr (by omega))).trans hkw (fun _ _ h => h.elim))
      have hcl : ∀ W, Keep (fun _ => False) wr W → W.cell? ⟨w1.heap.size + 1, 1, none⟩ = some (.slice (some ⟨w1.heap.size, 0, none⟩) 2 2) ∧ (∃ z, W.cell? ⟨w1.heap.size, k, none⟩ = some (.int .i64 z)) ∧ W.frozen? ⟨w1.heap.size, k, none⟩ = false := fun W hkw => by
        have h1 := hkw.get HB.out (fun h => h)
        have h2 : Deg2 W w1.heap.size x y := hkw.get hd (fun h => h)
        exact ⟨by rw [cell_of h1]; rfl, h2.at hlt, h2.cells.2.2 k⟩
      obtain ⟨c1, ⟨z0, cd⟩, fd⟩ := hcl wr (Keep.refl _ _)
      have HFK := Lib.hid hfr
      have HCL := Lib.hid hcl
      have HD := Lib.hid hd
      clear hfr hcl hd hu hk HFR
      have hfin : ∀ W, Keep (fun _ => False) wr W → ∃ x' y', Deg2 (W.setCell ⟨w1.heap.size, k, none⟩ (.int .i64 1)) w1.heap.size x' y' ∧ (0 < k + 1 → x' = 1) ∧ (1 < k + 1 → y' = 1) ∧ Keep (fun b => b = w1.heap.size) w2 (W.setCell ⟨w1.heap.size, k, none⟩ (.int .i64 1)) := fun W hkW => by
        obtain ⟨x', y', hd', hx', hy'⟩ := (show Deg2 W w1.heap.size x y from hkW.get HD.out (fun h => h)).set hlt hx
        exact ⟨x', y', hd', fun _ => hx', hy', (HKR.out.trans hkW (fun _ _ h => h.elim)).setCell (a := ⟨w1.heap.size, k, none⟩) _ (fun _ => rfl)⟩
      have HFIN := Lib.hid hfin
      clear hfin hx hy
      go_upto_region 6 with fail
      go_region_with (first
        | (((with_reducible refine (ID_at _ _).mono ?_); rintro e w3 ⟨rfl, rfl⟩))
        | (((with_reducible refine (HFK.out _ ((Keep.refl _ wr).drew)).mono ?_); rintro e w3 ⟨it2, g2, xs, rfl, hxs, hi2, hk3⟩); have hk4 := Keep.trans ((Keep.refl (fun _ => False) wr).drew) hk3 (fun _ _ h => h); obtain ⟨a1, ⟨d1, cd1⟩, fd1⟩ := HCL.out _ hk4; have HI2 := Lib.hid hi2; have HK4 := Lib.hid hk4; have HXS := Lib.hid hxs; clear hi2 hk3 hk4 hxs)
        | (((with_reducible refine (Len_spec HI2.out (Nat.zero_le _)).mono ?_); rintro e w4 ⟨rfl, q, rfl⟩); rw [HXS.out]))
      all_goals (go_wp2_with fail)
      all_goals go_roundw
      all_goals first
        | (simp [intOf]; omega)
        | (obtain ⟨x', y', h1, h2, h3, h4⟩ := HFIN.out _ (HK4.out.drewN q); exact ⟨k + 1, x', y', by go_num, by omega, h1, h2, h3, h4⟩)
    · obtain rfl : k = 2 := by omega
      obtain rfl := hx (by decide)
      obtain rfl := hy (by decide)
      obtain ⟨e0, e1, _⟩ := hd.cells
      have hso := sort2_spec (a := some ⟨g, off, none⟩) (nc := cap) (c := 2) e0 e1
      have hcb : wr.cell? ⟨w1.heap.size + 1, 0, none⟩ = some (.slice (some ⟨g, off, none⟩) 2 cap) ∧ wr.cell? ⟨w1.heap.size + 1, 1, none⟩ = some (.slice (some ⟨w1.heap.size, 0, none⟩) 2 2) := by
        constructor <;> (rw [cell_of HB.out]; rfl)
      obtain ⟨b0, b1⟩ := hcb
      have HSO := Lib.hid hso
      clear hso e0 e1 hd hk
      go_wp2_with (first
        | (((with_reducible refine (HSO.out).mono ?_); rintro e w3 ⟨rfl, hk3⟩); have HK3 := Lib.hid hk3; clear hk3)
        | (((with_reducible refine (NewOrd_spec _ rfl _).mono ?_); rintro e w4 ⟨rfl, rfl⟩)))
      go_ret
      exact ⟨_, rfl, byDesc_end HLL.out HC1.out HF1.out hle hmx hgl hgi hw1 HK1.out HK2.out HKR.out HK3.out⟩
end Go.Proofs.YtdaccgelmcmfjaaGreatDoor
end
/- An iterator over the nodes as an order; coloring.WelshPowell on two nodes from no colours. -/
section
namespace Go.Proofs.YtdaccgelmcmfjaaGreatDoor
open Go.RowKit Go.V
def SO (it g cb : Nat) (l : List Int) (W : World) (j : Nat) (C : PC) : Prop := Iter W it g (l.map nodeV) j ∧ ColAt W cb C ∧ ∀ i u, j ≤ i → l[i]? = some u → cget C u = none
def NO (it g cb : Nat) (l : List Int) (W : World) (j : Nat) (C : PC) (u : Int) : Prop := Iter W it g (l.map nodeV) (j + 1) ∧ ColAt W cb C ∧ l[j]? = some u ∧ ∀ i u, j ≤ i → l[i]? = some u → cget C u = none
theorem ordO {B it g cb pb : Nat} {G : PG} {l : List Int} (hl : G.ids = l) (hn : l.Nodup) (hB : B ≤ it) (h1 : cb ≠ it) (h2 : cb ≠ g) :
    OrdIs G B cb pb 283 284 (.pointer (some ⟨it, 0, none⟩)) (SO it g cb l) (NO it g cb l) (fun b => b = it) where
  next W j C hS hC hj hm hP := by
    obtain ⟨hi, hc, hr⟩ := hS
    have hjl : j < l.length := by rw [← hl]; exact hj
    refine (Next_true hi hjl).mono ?_
    rintro e w' ⟨rfl, q1, q2, q3⟩
    exact ⟨l[j], rfl, by rw [hl]; exact List.getElem_mem hjl, hr j _ (Nat.le_refl _) (List.getElem?_eq_getElem hjl), ⟨q1, hc.keep q2 h1, List.getElem?_eq_getElem hjl, hr⟩, q2⟩
  node W j C u h := Node_at h.1 h.2.2.1
  stop W C hS := by
    obtain ⟨hi, hc, hr⟩ := hS
    rw [hl] at hi
    refine (Next_false hi).mono ?_
    rintro e w' ⟨rfl, q2, q3⟩
    exact ⟨rfl, hc.keep q2 h1, q2⟩
  col W j C u h := h.2.1
  keep W W' j C u h hk := ⟨h.1.keep hk (fun h => h) (fun h => h), h.2.1.keepF hk, h.2.2⟩
  put W W' j C u c h hk hc := by
    obtain ⟨hi, _, hu, hr⟩ := h
    refine ⟨hi.keep hk (Ne.symm h1) (Ne.symm h2), hc, fun i v hij hv => ?_⟩
    rw [cget_cput, if_neg, hr i v (by omega) hv]
    rintro rfl
    have := (List.getElem?_inj (List.getElem?_eq_some_iff.1 hu).1 hn).1 (hu.trans hv.symm)
    omega
  far b hb := by rw [hb]; exact hB
set_option maxHeartbeats 8000000 in
set_option maxRecDepth 100000 in
theorem WelshPowell_spec {B pb : Nat} {w : World} {G : PG} (hG : Plain B w pb G) (hB : B ≤ w.heap.size) (hU : UG G) (h2 : G.ids.length = 2) (hn : ∀ i, i < 2 → (G.nbr i).length = 1) :
    Calls Tryz.prog 117 #[gV pb, .map none] w (ColPost w G) := by
  unfold ColPost
  have hN := uNodes_spec hG
  have hP : ∀ S W, Keep S w W → (∀ b, S b → B ≤ b) → Plain B W pb G := fun S W hk hs => hG.keep hk hs
  have hnd := PG.ids_nodup hU.ok
  have HN := Lib.hid hN
  have HP := Lib.hid hP
  have HU := Lib.hid hU
  have HND := Lib.hid hnd
  have HL2 := Lib.hid h2
  have HNB := Lib.hid hn
  clear hN hP hG hU hnd h2 hn
  go_enter Tryz.func117, Tryz.ntmps117
  go_upto_region 7 with (first
    | (((with_reducible refine (HN.out).mono ?_); rintro e w1 ⟨it, g1, rfl, hi1, hl1, hg1, hk1⟩); have HI1 := Lib.hid hi1; have HK1 := Lib.hid hk1; clear hi1 hk1)
    | (((with_reducible refine (Len_spec HI1.out (Nat.zero_le _)).mono ?_); rintro e w2 ⟨rfl, q, rfl⟩); rw [List.length_map, Nat.sub_zero, HL2.out])
    | (((with_reducible refine (newPartial_spec _ _).mono ?_); rintro e w3 ⟨rfl, rfl⟩)))
  have hk2 := (HK1.out.drewN q)
  have hi2 := HI1.out.keep ((Keep.refl (fun _ => False) w1).drewN q) (fun h => h) (fun h => h)
  have hl2 : it < (w1.drewN q).heap.size := hi2.lt
  have hg2 : g1 < (w1.drewN q).heap.size := hi2.lt'
  have E2 := Lib.hid (show (w1.drewN q).heap.size = w1.heap.size by simp)
  generalize w1.drewN q = w2 at *
  have HMADE := Lib.hid (show ColAt (w2.alloc (.map #[] 0)) w1.heap.size [] by rw [← E2.out]; exact MapAt.made w2)
  rw [E2.out] at hl2 hg2
  have hka := (Keep.refl (fun _ => False) w2).alloc (.map #[] 0)
  have hw2 : w.heap.size ≤ w1.heap.size := HK1.out.size
  have hby := byDesc_spec (HP.out _ _ (hk2.alloc (.map #[] 0)) (fun _ h => h.elim)) rfl HL2.out (hi2.keep hka (fun h => h) (fun h => h)) HNB.out (show B ≤ it by omega)
  have hsz : (w2.alloc (.map #[] 0)).heap.size = w1.heap.size + 1 := by simp; exact E2.out
  rw [hsz] at hby
  have HBY := Lib.hid hby
  have HK2 := Lib.hid (hk2.alloc (.map #[] 0))
  clear hby hka hi2 hk2 HI1
  have hgr := fun W it2 (hi : Iter W it2 g1 (G.ids.map nodeV) 0) (hb : w1.heap.size + 1 ≤ it2) (hk : Keep (fun b => b = it) (w2.alloc (.map #[] 0)) W) =>
    greedyAny_spec (T := 284) (w := W) (cb := w1.heap.size) (ordO (pb := pb) (cb := w1.heap.size) (B := B) rfl HND.out (show B ≤ it2 by omega) (show w1.heap.size ≠ it2 by omega) (show w1.heap.size ≠ g1 by omega))
      (fun W' hk' => ⟨⟨hi.keep hk' (fun h => h) (fun h => h), (HMADE.out.keep hk (show ¬ w1.heap.size = it by omega)).keepF hk', fun i u _ _ => rfl⟩, (HMADE.out.keep hk (show ¬ w1.heap.size = it by omega)).keepF hk'⟩)
      (HP.out _ _ ((HK2.out.mono (T := fun b => b = it) (fun _ _ h => h.elim)).trans hk (fun _ _ h => h)) (fun b hb => by rw [hb]; omega)) HU.out (by omega) (by have := hk.size; omega) (by rw [HL2.out]; decide)
      (fun w => by kernel_rfl) (fun w => by kernel_rfl) (enters_of Tryz.func283 (by kernel_rfl) rfl) (enters_of Tryz.func284 (by kernel_rfl) rfl)
  have HGR := Lib.hid hgr
  clear hgr
  go_wp2_with (first
    | (((with_reducible refine (HBY.out).mono ?_); rintro e w4 ⟨it2, rfl, hi4, hb4, hk4⟩); have HG4 := Lib.hid (HGR.out w4 it2 hi4 hb4 hk4); have HK4 := Lib.hid (HK2.out.trans hk4 (fun b hb h => by omega)); have HB4 := Lib.hid hb4; clear hi4 hb4 hk4)
    | (((with_reducible refine (HG4.out).mono ?_); rintro e w6 ⟨k, C, rfl, hgg, hkn, hc6, hk6⟩); have HGG := Lib.hid hgg; have HKN := Lib.hid hkn; have HC6 := Lib.hid hc6; have HK6 := Lib.hid (HK4.out.trans hk6 (fun b hb h => by have := HB4.out; omega)); clear hgg hkn hc6 hk6))
  go_ret3
  exact ⟨k, w1.heap.size, C, by simp, HGG.out, HKN.out, HC6.out, HK6.out⟩
end Go.Proofs.YtdaccgelmcmfjaaGreatDoor
end
/- impl's greedy colourings on the graph of one edge. -/
section
namespace Go.Proofs.YtdaccgelmcmfjaaGreatDoor
open Go.RowKit Go.V
theorem g12_good : GoodU g12 := by
  refine ⟨⟨by decide, fun e he => ?_⟩, rfl, by decide, by decide⟩
  simp [g12] at he
  subst he
  exact ⟨by decide, by decide, by decide, by decide, by decide⟩
theorem g12_ids {G : PG} (h : Reads g12 G) : G.ids = [1, 2] := by
  rw [h.ids]; exact isort_asc (by decide)
theorem g12_adj {G : PG} (h : Reads g12 G) (u v : Int) : G.adj u v ↔ (u = 1 ∧ v = 2) ∨ (u = 2 ∧ v = 1) := by
  refine (h.adj u v).trans ?_
  constructor
  · rintro ⟨e, he, h⟩
    simp [g12] at he
    subst he
    rcases h with ⟨h1, h2⟩ | ⟨_, h1, h2⟩
    · exact .inl ⟨h1.symm, h2.symm⟩
    · exact .inr ⟨h2.symm, h1.symm⟩
  · rintro (⟨rfl, rfl⟩ | ⟨rfl, rfl⟩)
    · exact ⟨(1, 2, 0), by simp [g12], .inl ⟨rfl, rfl⟩⟩
    · exact ⟨(1, 2, 0), by simp [g12], .inr ⟨rfl, rfl, rfl⟩⟩
theorem only_one {l : List Int} {x : Int} (hn : l.Nodup) (h : ∀ v, v ∈ l ↔ v = x) : l = [x] := by
  match l, hn, h with
  | [], _, h => exact absurd ((h x).2 rfl) (by simp)
  | [y], _, h => rw [(h y).1 (by simp)]
  | y :: z :: t, hn, h =>
    have h1 := (h y).1 (by simp)
    have h2 := (h z).1 (by simp)
    rw [List.nodup_cons] at hn
    exact absurd (by rw [h1, h2]; simp) hn.1
theorem g12_nbr {G : PG} (h : Reads g12 G) (ho : G.Ok) : G.ids[0]? = some 1 ∧ G.ids[1]? = some 2 ∧ G.nbr 0 = [2] ∧ G.nbr 1 = [1] := by
  have hi := g12_ids h
  have h0 : G.ids[0]? = some 1 := by rw [hi]; rfl
  have h1 : G.ids[1]? = some 2 := by rw [hi]; rfl
  refine ⟨h0, h1, only_one (PG.nbr_nodup ho h0) fun v => ?_, only_one (PG.nbr_nodup ho h1) fun v => ?_⟩
  · rw [PG.mem_nbr ho h0, g12_adj h]; omega
  · rw [PG.mem_nbr ho h1, g12_adj h]; omega
theorem gr_two {G : PG} {C : PC} {k : Nat} (h : Reads g12 G) (hg : Gr G C G.ids.length k) (hk : k + 1 ≤ G.ids.length) (hn : (C.map (·.1)).Nodup) : k = 1 ∧ C.length = 2 ∧ ∃ a b : Nat, cget C 1 = some a ∧ cget C 2 = some b ∧ a ≠ b := by
  have hi := g12_ids h
  have hl : G.ids.length = 2 := by rw [hi]; rfl
  rw [hl] at hg hk
  have hall : ∀ u ∈ G.ids, ∃ c, cget C u = some c := fun u hu => by
    cases hc : cget C u with
    | some c => exact ⟨c, rfl⟩
    | none =>
      have := nodup_le (l := u :: C.map (·.1)) (ids := G.ids) (List.nodup_cons.2 ⟨cget_none.1 hc, hn⟩) (fun v hv => by
        rcases List.mem_cons.1 hv with rfl | hv
        · exact hu
        · exact hg.mem v hv)
      rw [List.length_cons, List.length_map, hg.len, hl] at this
      omega
  obtain ⟨a, ha⟩ := hall 1 (by rw [hi]; decide)
  obtain ⟨b, hb⟩ := hall 2 (by rw [hi]; decide)
  have hab : a ≠ b := fun e => by
    subst e
    exact hg.proper 1 2 a ha hb ((g12_adj h 1 2).2 (.inl ⟨rfl, rfl⟩))
  have h1 := hg.le _ _ ha
  have h2 := hg.le _ _ hb
  exact ⟨by omega, hg.len, a, b, ha, hb, hab⟩
def Both (w' : World) (v : Value) : Prop := ∃ a b : Int, PRow w' v [(1, a), (2, b)] ∧ a ≠ b
def By (f : FuncId) : Prop := ∀ B pb W G, Plain B W pb G → B ≤ W.heap.size → UG G → Reads g12 G → Calls Tryz.prog f #[gV pb, .map none] W (ColPost W G)
theorem by_dsatur : By 115 := fun B pb W G hP hB hU hr => Dsatur_spec hP hB hU (by rw [g12_ids hr]; decide) (by rw [g12_ids hr]; decide)
theorem by_sanSegundo : By 116 := fun B pb W G hP hB hU hr => SanSegundo_spec hP hB hU (by rw [g12_ids hr]; decide) (by rw [g12_ids hr]; decide)
theorem by_welshPowell : By 117 := fun B pb W G hP hB hU hr => WelshPowell_spec hP hB hU (by rw [g12_ids hr]; rfl) (fun i hi => by
  obtain ⟨_, _, h0, h1⟩ := g12_nbr hr hU.ok
  rcases (show i = 0 ∨ i = 1 by omega) with rfl | rfl
  · rw [h0]; rfl
  · rw [h1]; rfl)
set_option maxHeartbeats 8000000 in
set_option maxRecDepth 20000 in
theorem partly_spec {f : FuncId} (heg : ∀ args w, (callFunc f args).run Tryz.prog w = .ok (.enter f args) w) (hby : By f) {B : Nat} {w : World} {gv : Value} (hg : GraphAt B w gv g12) (hB : B ≤ w.heap.size) :
    Calls Tryz.prog 114 #[gv, .slice none 0 0, .func (.func f) #[] #[]] w fun e w' => ∃ v, e = .returned (.tuple #[.int .i64 2, v, .bool true, .bool false]) ∧ Both w' v ∧ Keep (fun _ => False) w w' := by
  have hb := fun W (hk : Keep (fun _ => False) w W) => bothWays_good (hg.keepF hk) (Nat.le_trans hB hk.size) g12_good
  obtain ⟨na, nc, bb, off, ec, rfl, -⟩ := g12_at hg
  have HBW := Lib.hid hb
  have hdx : ∀ B W pb G, Plain B W pb G → B ≤ W.heap.size → Reads g12 G → Calls Tryz.prog f #[gV pb, .map none] W fun e w' => ∃ (cb : Nat) (C : PC), e = .returned (.tuple #[.int .i64 2, .map (some cb), .nilIface]) ∧ ColAt w' cb C ∧ (C.length = 2 ∧ ∃ a b : Nat, cget C 1 = some a ∧ cget C 2 = some b ∧ a ≠ b) ∧ Keep (fun _ => False) W w' := fun B W pb G hp hB hr => by
    refine (hby B pb W G hp hB (g12_good.ug hr hp.ok) hr).mono ?_
    rintro e w' ⟨k, cb, C, rfl, q1, q2, q3, q4⟩
    obtain ⟨rfl, h2, h3⟩ := gr_two hr q1 q2 q3.nodup
    exact ⟨cb, C, rfl, q3, ⟨h2, h3⟩, q4⟩
  have hcol : ∀ (W : World) (cb : Nat) (C : PC), ColAt W cb C → (C.length = 2 ∧ ∃ a b : Nat, cget C 1 = some a ∧ cget C 2 = some b ∧ a ≠ b) → Calls Tryz.prog 32 #[.map (some cb)] W fun e w' => ∃ v, e = .returned v ∧ Both w' v ∧ Keep (fun _ => False) W w' := fun W cb C hc h2 => by
    obtain ⟨hl, a, b, ha, hb, hab⟩ := h2
    refine (colorsL_spec hc (by omega) (by omega)).mono ?_
    rintro e w' ⟨v, rfl, q1, q2⟩
    exact ⟨v, rfl, ⟨a, b, colL_two q1 hc.nodup hl ha hb, by omega⟩, q2⟩
  have HDX := Lib.hid hdx
  have HCOL := Lib.hid hcol
  clear hdx hcol hb hg hby
  go_enter Tryz.func114, Tryz.ntmps114
  go_wp2_with (first
    | (((with_reducible refine (HBW.out _ (by repeat first | exact Keep.refl _ _ | assumption | apply Keep.alloc | apply Keep.drewN | apply Keep.drew | (refine Keep.setCell ?_ _ (fun h => absurd h (Nat.lt_irrefl _))))).mono ?_); rintro e w1 ⟨pb, G, rfl, q0, q1, q2, q3⟩); have Q0 := Lib.hid q0; have hp2 := fun (o : Obj) => q2.keepF ((Keep.refl (fun _ => False) w1).alloc o); have hsz2 : ∀ o : Obj, w1.heap.size ≤ (w1.alloc o).heap.size := fun o => (by simp); have HSZ := Lib.hid hsz2; have HP2 := Lib.hid hp2; have Q3 := Lib.hid q3; clear q0 q2 q3 hp2 hsz2)
    | (((with_reducible refine (colored_spec _).mono ?_); rintro e w2 ⟨rfl, rfl⟩))
    | (((with_reducible refine (HDX.out _ _ pb G (HP2.out _) (HSZ.out _) Q3.out).mono ?_); rintro e w3 ⟨cb, C, rfl, q4, q5, q6⟩); have Q5 := Lib.hid (HCOL.out _ _ _ q4 q5); have Q6 := Lib.hid q6; clear q4 q5 q6)
    | (((with_reducible refine (Q5.out).mono ?_); rintro e w5 ⟨v5, rfl, hb5, k5⟩); have K5 := Lib.hid k5; have HB5 := Lib.hid hb5; clear k5 hb5))
  (try simp only [Exit.inBlock, Exit.then])
  refine bodyPost_ret (by simp [results, Tryz.results114, go_sem]; try rfl) rfl ?_
  exact ⟨v5, rfl, HB5.out, (((((Keep.refl (fun _ => False) w).alloc _).trans Q0.out (fun _ _ h => h)).alloc _).trans Q6.out (fun _ _ h => h)).trans K5.out (fun _ _ h => h)⟩
set_option maxHeartbeats 4000000 in
set_option maxRecDepth 20000 in
theorem implByDsatur_spec {B : Nat} {w : World} {gv : Value} (hg : GraphAt B w gv g12) (hB : B ≤ w.heap.size) :
    Calls Tryz.prog 62 #[gv, .slice none 0 0] w fun e w' => ∃ v, e = .returned (.tuple #[.int .i64 2, v, .bool true, .bool false]) ∧ Both w' v ∧ Keep (fun _ => False) w w' := by
  have hp := fun W (hk : Keep (fun _ => False) w W) => partly_spec (f := 115) (enters_of Tryz.func115 (by kernel_rfl) rfl) by_dsatur (hg.keepF hk) (Nat.le_trans hB hk.size)
  obtain ⟨na, nc, bb, off, ec, rfl, -⟩ := g12_at hg
  have HP := Lib.hid hp
  clear hp hg
  go_enter Tryz.func62, Tryz.ntmps62
  go_wp2_with (first
    | (((with_reducible refine (HP.out _ (by repeat first | exact Keep.refl _ _ | assumption | apply Keep.alloc | apply Keep.drewN | apply Keep.drew | (refine Keep.setCell ?_ _ (fun h => absurd h (Nat.lt_irrefl _))))).mono ?_); rintro e w1 ⟨v, rfl, hb, hk⟩); have HB := Lib.hid hb; have HK := Lib.hid hk; clear hb hk))
  (try simp only [Exit.inBlock, Exit.then])
  refine bodyPost_ret (by simp [results, Tryz.results62, go_sem]; try rfl) rfl ?_
  exact ⟨v, rfl, HB.out, ((Keep.refl (fun _ => False) w).alloc _).trans HK.out (fun _ _ h => h)⟩
set_option maxHeartbeats 4000000 in
set_option maxRecDepth 20000 in
theorem implBySanSegundo_spec {B : Nat} {w : World} {gv : Value} (hg : GraphAt B w gv g12) (hB : B ≤ w.heap.size) :
    Calls Tryz.prog 63 #[gv, .slice none 0 0] w fun e w' => ∃ v, e = .returned (.tuple #[.int .i64 2, v, .bool true, .bool false]) ∧ Both w' v ∧ Keep (fun _ => False) w w' := by
  have hp := fun W (hk : Keep (fun _ => False) w W) => partly_spec (f := 116) (enters_of Tryz.func116 (by kernel_rfl) rfl) by_sanSegundo (hg.keepF hk) (Nat.le_trans hB hk.size)
  obtain ⟨na, nc, bb, off, ec, rfl, -⟩ := g12_at hg
  have HP := Lib.hid hp
  clear hp hg
  go_enter Tryz.func63, Tryz.ntmps63
  go_wp2_with (first
    | (((with_reducible refine (HP.out _ (by repeat first | exact Keep.refl _ _ | assumption | apply Keep.alloc | apply Keep.drewN | apply Keep.drew | (refine Keep.setCell ?_ _ (fun h => absurd h (Nat.lt_irrefl _))))).mono ?_); rintro e w1 ⟨v, rfl, hb, hk⟩); have HB := Lib.hid hb; have HK := Lib.hid hk; clear hb hk))
  (try simp only [Exit.inBlock, Exit.then])
  refine bodyPost_ret (by simp [results, Tryz.results63, go_sem]; try rfl) rfl ?_
  exact ⟨v, rfl, HB.out, ((Keep.refl (fun _ => False) w).alloc _).trans HK.out (fun _ _ h => h)⟩
set_option maxHeartbeats 4000000 in
set_option maxRecDepth 20000 in
theorem implByWelshPowell_spec {B : Nat} {w : World} {gv : Value} (hg : GraphAt B w gv g12) (hB : B ≤ w.heap.size) :
    Calls Tryz.prog 64 #[gv, .slice none 0 0] w fun e w' => ∃ v, e = .returned (.tuple #[.int .i64 2, v, .bool true, .bool false]) ∧ Both w' v ∧ Keep (fun _ => False) w w' := by
  have hp := fun W (hk : Keep (fun _ => False) w W) => partly_spec (f := 117) (enters_of Tryz.func117 (by kernel_rfl) rfl) by_welshPowell (hg.keepF hk) (Nat.le_trans hB hk.size)
  obtain ⟨na, nc, bb, off, ec, rfl, -⟩ := g12_at hg
  have HP := Lib.hid hp
  clear hp hg
  go_enter Tryz.func64, Tryz.ntmps64
  go_wp2_with (first
    | (((with_reducible refine (HP.out _ (by repeat first | exact Keep.refl _ _ | assumption | apply Keep.alloc | apply Keep.drewN | apply Keep.drew | (refine Keep.setCell ?_ _ (fun h => absurd h (Nat.lt_irrefl _))))).mono ?_); rintro e w1 ⟨v, rfl, hb, hk⟩); have HB := Lib.hid hb; have HK := Lib.hid hk; clear hb hk))
  (try simp only [Exit.inBlock, Exit.then])
  refine bodyPost_ret (by simp [results, Tryz.results64, go_sem]; try rfl) rfl ?_
  exact ⟨v, rfl, HB.out, ((Keep.refl (fun _ => False) w).alloc _).trans HK.out (fun _ _ h => h)⟩
end Go.Proofs.YtdaccgelmcmfjaaGreatDoor
end
/- impl.DsaturExact on the graph of one edge: two colours. -/
section
namespace Go.Proofs.YtdaccgelmcmfjaaGreatDoor
open Go.RowKit Go.V
theorem whole_two {G : PG} {D : PC} (h : Reads g12 G) (hw : Whole G D) (hn : (D.map (·.1)).Nodup) : D.length = 2 ∧ ∃ a b : Nat, cget D 1 = some a ∧ cget D 2 = some b ∧ a ≠ b := by
  have hi := g12_ids h
  obtain ⟨h1, h2, h3⟩ := hw
  obtain ⟨a, ha⟩ := h2 1 (by rw [hi]; decide)
  obtain ⟨b, hb⟩ := h2 2 (by rw [hi]; decide)
  have hle := nodup_le hn h1
  rw [List.length_map, hi] at hle
  have hge := nodup_le (l := [1, 2]) (ids := D.map (·.1)) (by decide) (fun v hv => by
    refine Classical.byContradiction fun hm => ?_
    have h0 := cget_none.2 hm
    simp at hv
    rcases hv with rfl | rfl
    · rw [ha] at h0; cases h0
    · rw [hb] at h0; cases h0)
  rw [List.length_map] at hge
  simp at hle hge
  refine ⟨by omega, a, b, ha, hb, fun e => ?_⟩
  subst e
  exact h3 1 2 a ha hb ((g12_adj h 1 2).2 (.inl ⟨rfl, rfl⟩))
theorem chi_two {G : PG} {k : Nat} (h : Reads g12 G) (hk : Chi G.ids G.adj k) : k = 2 := by
  have hi := g12_ids h
  obtain ⟨⟨f, hf1, hf2⟩, hmin⟩ := hk
  have m1 : (1 : Int) ∈ G.ids := by rw [hi]; decide
  have m2 : (2 : Int) ∈ G.ids := by rw [hi]; decide
  have a12 := (g12_adj h 1 2).2 (.inl ⟨rfl, rfl⟩)
  have h1 := hf1 1 m1
  have h2 := hf1 2 m2
  have h3 := hf2 1 m1 2 m2 a12
  have h4 := hmin 2 ⟨fun u => if u = 1 then 0 else 1, fun u _ => by dsimp only; split <;> omega, fun u hu v hv hadj => by
    rcases (g12_adj h u v).1 hadj with ⟨rfl, rfl⟩ | ⟨rfl, rfl⟩ <;> decide⟩
  omega
set_option maxHeartbeats 8000000 in
set_option maxRecDepth 20000 in
theorem implExact_spec {B : Nat} {w : World} {gv : Value} (hg : GraphAt B w gv g12) (hB : B ≤ w.heap.size) :
    Calls Tryz.prog 15 #[gv] w fun e w' => ∃ v, e = .returned (.tuple #[.int .i64 2, v, .bool false]) ∧ Both w' v ∧ Keep (fun _ => False) w w' := by
  have hb := fun W (hk : Keep (fun _ => False) w W) => bothWays_good (hg.keepF hk) (Nat.le_trans hB hk.size) g12_good
  obtain ⟨na, nc, bb, off, ec, rfl, -⟩ := g12_at hg
  have HBW := Lib.hid hb
  have hdx : ∀ B W pb G, Plain B W pb G → B ≤ W.heap.size → Reads g12 G → Calls Tryz.prog 31 #[.nilIface, gV pb] W fun e w' => ∃ (cb : Nat) (C : PC), e = .returned (.tuple #[.int .i64 2, .map (some cb), .nilIface]) ∧ ColAt w' cb C ∧ (C.length = 2 ∧ ∃ a b : Nat, cget C 1 = some a ∧ cget C 2 = some b ∧ a ≠ b) ∧ Keep (fun _ => False) W w' := fun B W pb G hp hB hr => by
    have hl : G.ids.length = 2 := by rw [g12_ids hr]; rfl
    refine (DsaturExact_spec hp hB (g12_good.ug hr hp.ok) (by omega) (by omega)).mono ?_
    rintro e w' ⟨k, cv, rfl, q1, ⟨m, D, rfl, q2, q3⟩, q4⟩
    obtain rfl := chi_two hr q1
    exact ⟨m, D, rfl, q2, whole_two hr q3 q2.nodup, q4⟩
  have hcol : ∀ (W : World) (cb : Nat) (C : PC), ColAt W cb C → (C.length = 2 ∧ ∃ a b : Nat, cget C 1 = some a ∧ cget C 2 = some b ∧ a ≠ b) → ∀ W', Keep (fun _ => False) W W' → Calls Tryz.prog 32 #[.map (some cb)] W' fun e w' => ∃ v, e = .returned v ∧ Both w' v ∧ Keep (fun _ => False) W' w' := fun W cb C hc h2 W' hk => by
    obtain ⟨hl, a, b, ha, hb, hab⟩ := h2
    refine (colorsL_spec (hc.keepF hk) (by omega) (by omega)).mono ?_
    rintro e w' ⟨v, rfl, q1, q2⟩
    exact ⟨v, rfl, ⟨a, b, colL_two q1 hc.nodup hl ha hb, by omega⟩, q2⟩
  have HDX := Lib.hid hdx
  have HCOL := Lib.hid hcol
  clear hdx hcol hb hg
  go_enter Tryz.func15, Tryz.ntmps15
  go_wp2_with (first
    | (((with_reducible refine (HBW.out _ (by repeat first | exact Keep.refl _ _ | assumption | apply Keep.alloc | apply Keep.drewN | apply Keep.drew | (refine Keep.setCell ?_ _ (fun h => absurd h (Nat.lt_irrefl _))))).mono ?_); rintro e w1 ⟨pb, G, rfl, q0, q1, q2, q3⟩); have Q0 := Lib.hid q0; have hp2 := fun (o : Obj) => q2.keepF ((Keep.refl (fun _ => False) w1).alloc o); have hsz2 : ∀ o : Obj, w1.heap.size ≤ (w1.alloc o).heap.size := fun o => (by simp); have HSZ := Lib.hid hsz2; have HP2 := Lib.hid hp2; have Q3 := Lib.hid q3; clear q0 q2 q3 hp2 hsz2)
    | (((with_reducible refine (HDX.out _ _ pb G (HP2.out _) (HSZ.out _) Q3.out).mono ?_); rintro e w3 ⟨cb, C, rfl, q4, q5, q6⟩); have Q5 := Lib.hid (HCOL.out _ _ _ q4 q5); have Q6 := Lib.hid q6; have hr3 := Keep.refl (fun _ => False) w3; have HR3 := Lib.hid hr3; clear q4 q5 q6 hr3))
  go_region_with (((with_reducible refine (Q5.out _ (by repeat first | exact Keep.refl _ _ | assumption | apply Keep.alloc | apply Keep.drewN | apply Keep.drew | (refine Keep.setCell ?_ _ (fun h => absurd h (Nat.lt_irrefl _))))).mono ?_); rintro e w5 ⟨v5, rfl, hb5, k5⟩); have K5 := Lib.hid k5; have HB5 := Lib.hid hb5; clear k5 hb5)
  all_goals (go_wp2_with fail)
  all_goals go_ret3
  all_goals exact ⟨v5, by first | rfl | simp [go_sem], HB5.out, (((((Keep.refl (fun _ => False) w).alloc _).trans Q0.out (fun _ _ h => h)).alloc _).trans Q6.out (fun _ _ h => h)).trans ((HR3.out.drew).trans K5.out (fun _ _ h => h)) (fun _ _ h => h)⟩
end Go.Proofs.YtdaccgelmcmfjaaGreatDoor
end
/- laws.colorings on the graph of one edge. -/
section
namespace Go.Proofs.YtdaccgelmcmfjaaGreatDoor
open Go.RowKit Go.V
def Got (w : World) (e : Ending) (w' : World) : Prop := ∃ v, e = .returned (.tuple #[.int .i64 2, v, .bool true, .bool false]) ∧ Both w' v ∧ Keep (fun _ => False) w w'
set_option maxHeartbeats 8000000 in
set_option maxRecDepth 20000 in
theorem colorings_spec {B k : Nat} {w : World} {gv : Value} (hg : GraphAt B w gv g12) (hB : B ≤ w.heap.size) (hk : k < 3) :
    Calls Tryz.prog 34 #[.int .u8 (k : Int), gv, .slice none 0 0] w (Got w) := by
  unfold Got
  have h0 := fun W (hk : Keep (fun _ => False) w W) => implByDsatur_spec (hg.keepF hk) (Nat.le_trans hB hk.size)
  have h1 := fun W (hk : Keep (fun _ => False) w W) => implBySanSegundo_spec (hg.keepF hk) (Nat.le_trans hB hk.size)
  have h2 := fun W (hk : Keep (fun _ => False) w W) => implByWelshPowell_spec (hg.keepF hk) (Nat.le_trans hB hk.size)
  obtain ⟨na, nc, bb, off, ec, rfl, -⟩ := g12_at hg
  have H0 := Lib.hid h0
  have H1 := Lib.hid h1
  have H2 := Lib.hid h2
  clear h0 h1 h2 hg
  rcases (show k = 0 ∨ k = 1 ∨ k = 2 by omega) with rfl | rfl | rfl
  all_goals
    go_enter Tryz.func34, Tryz.ntmps34
    go_wp2_with (first
      | (((with_reducible refine (H0.out _ (by repeat first | exact Keep.refl _ _ | assumption | apply Keep.alloc | apply Keep.drewN | apply Keep.drew | (refine Keep.setCell ?_ _ (fun h => absurd h (Nat.lt_irrefl _))))).mono ?_); rintro e w1 ⟨v, rfl, hb, hk1⟩); have HB := Lib.hid hb; have HK := Lib.hid hk1; clear hb hk1)
      | (((with_reducible refine (H1.out _ (by repeat first | exact Keep.refl _ _ | assumption | apply Keep.alloc | apply Keep.drewN | apply Keep.drew | (refine Keep.setCell ?_ _ (fun h => absurd h (Nat.lt_irrefl _))))).mono ?_); rintro e w1 ⟨v, rfl, hb, hk1⟩); have HB := Lib.hid hb; have HK := Lib.hid hk1; clear hb hk1)
      | (((with_reducible refine (H2.out _ (by repeat first | exact Keep.refl _ _ | assumption | apply Keep.alloc | apply Keep.drewN | apply Keep.drew | (refine Keep.setCell ?_ _ (fun h => absurd h (Nat.lt_irrefl _))))).mono ?_); rintro e w1 ⟨v, rfl, hb, hk1⟩); have HB := Lib.hid hb; have HK := Lib.hid hk1; clear hb hk1))
    (try simp only [Exit.inBlock, Exit.then])
    refine bodyPost_ret (by simp [results, Tryz.results34, go_sem]; try rfl) rfl ?_
    exact ⟨v, rfl, HB.out, ((Keep.refl (fun _ => False) w).alloc _).trans HK.out (fun _ _ h => h)⟩
end Go.Proofs.YtdaccgelmcmfjaaGreatDoor
end
