/- spec.sortInts, spec.Nodes on an ascending list. -/
import Derived.Test.YtdaccgelmcmfjaaGreatDoorJL1
import Derived.Test.YtdaccgelmcmfjaaGreatDoorJPF
import Derived.Test.YtdaccgelmcmfjaaGreatDoorJR3
import Derived.Deep.RegionLawGrows
import Derived.Deep.Upon
set_option linter.all false
section
namespace Go.V
open Go.RowKit
theorem step_nothing {P : Program} {ops : Array Oper} {o : Oper} {a : Act} {Q : Exit → Act → World → Prop} {w : World} {K : Act → World → Prop} {E : Prop} (hg : o.guard = none) {s x : Operand} {t : TypeId} (ho : o.op = .call { callee := .builtin .append, args := #[s, x], argTypes := #[t, t] })
    {e : TypeId} {i : TypeInfo} (ht : P.underlying t = some (.slice e)) (hi : P.info? e = some i) (b : Option Addr) (n c : Nat) (hs : a.eval s = .slice b n c) (hle : n ≤ c) (ao : Option Addr) (c' : Nat) (hx : a.eval x = .slice ao 0 c') (h : K (a.put o.dst (.slice b n c)) w) :
    if Region.wanted o (yielded ops a.tmps) = true then Oper.wp P o a w K Q else E := by
  refine step_ex hg (v := .slice b n c) (Φ := fun w' => w' = w) ⟨w, run_append_op ho hs hx (run_append_nothing w t t o.type e i ht hi b n c hle _ ?_), rfl⟩ (fun w' e => by rw [e]; exact h)
  cases ao with
  | none => exact Src.ofNil w ht c'
  | some ad => exact Src.ofSlice w ht ad 0 c' [] (by simp) (by simp) (by simp)
end Go.V
namespace Go.Proofs.YtdaccgelmcmfjaaGreatDoor
open Go.RowKit Go.V
theorem ints_take_step {l : List Int} {i : Nat} {x : Int} (h : l[i]? = some x) : ints (l.take i) ++ [.int .i64 x] = ints (l.take (i + 1)) := by
  rw [List.take_add_one, h]; unfold ints; rw [List.map_append]; rfl
def Out (w0 W : World) (l : List Int) (i : Nat) (v : Value) : Prop := W.ownsRow w0.heap.size 3 1 v i (ints (l.take i))
theorem Out.form {w0 W : World} {l : List Int} {i : Nat} {v : Value} (h : Out w0 W l i v) (hi : i ≤ l.length) : (v = .slice none 0 0 ∧ i = 0) ∨ ∃ g cap, v = .slice (some ⟨g, 0, none⟩) i cap ∧ i ≤ cap ∧ w0.heap.size ≤ g ∧ g < W.heap.size ∧ Cells W g 0 (ints (l.take i)) := by
  rcases owns_row h with ⟨rfl, h0⟩ | ⟨g, cap, rfl, hb, hg, hc, _, h1, h2⟩
  · exact .inl ⟨rfl, h0⟩
  · exact .inr ⟨g, cap, rfl, h1, hb, hg, hc⟩
set_option maxHeartbeats 8000000 in
set_option maxRecDepth 20000 in
theorem sortInts_spec {B : Nat} {w : World} {v : Value} {l : List Int} (h : Row B w v (ints l)) (ha : l.Pairwise (· ≤ ·)) (hn : l.length ≤ 1000) :
    Calls Tryz.prog 65 #[v] w fun e w' => ∃ v', e = .returned v' ∧ w'.ownsRow w.heap.size 3 1 v' l.length (ints l) ∧ Keep (fun _ => False) w w' := by
  have hrow : ∃ a c, v = .slice a l.length c ∧ ∀ i, i < l.length → ∃ b off x, a = some ⟨b, off, none⟩ ∧ l[i]? = some x ∧ ∀ W, Keep (fun _ => False) w W → W.cell? ⟨b, off + i, none⟩ = some (.int .i64 x) := by
    rcases h with ⟨rfl, h0⟩ | ⟨b, off, cap, rfl, hb, hc, _⟩
    · have : l = [] := by simpa [ints] using h0
      subst this
      exact ⟨none, 0, rfl, fun i hi => absurd hi (Nat.not_lt_zero _)⟩
    · refine ⟨_, _, by rw [ints_length], fun i hi => ⟨b, off, l[i], rfl, List.getElem?_eq_getElem hi, fun W hk => (hc.keep hk (fun h => h)) i _ (by unfold ints; rw [List.getElem?_map, List.getElem?_eq_getElem hi]; rfl)⟩⟩
  obtain ⟨a, c, rfl, hrow⟩ := hrow
  have hasc : ∀ i x y, l[i]? = some x → l[i + 1]? = some y → ¬ y < x := fun i x y hx hy => by
    obtain ⟨h1, e1⟩ := List.getElem?_eq_some_iff.1 hx
    obtain ⟨h2, e2⟩ := List.getElem?_eq_some_iff.1 hy
    have := List.pairwise_iff_getElem.1 ha i (i + 1) h1 h2 (by omega)
    omega
  have hown0 : ∀ W : World, Out w W l 0 (.slice none 0 0) := fun W => World.ownsRow_nil W _ _ _
  have hall : ∀ W v, Out w W l l.length v → W.ownsRow w.heap.size 3 1 v l.length (ints l) := fun W v h => by
    unfold Out at h; rwa [List.take_length] at h
  have hform := fun W i v (h : Out w W l i v) (hi : i ≤ l.length) => h.form hi
  have hstep := fun i x (h : l[i]? = some x) => ints_take_step h
  generalize hnn : l.length = n at *
  have HNN := Lib.hid hnn
  have HROW := Lib.hid hrow
  have HASC := Lib.hid hasc
  have HO := Lib.hid hown0
  have HALL := Lib.hid hall
  have HF := Lib.hid hform
  have HST := Lib.hid hstep
  clear hrow hasc hown0 hall hform hstep h ha hnn
  go_enter Tryz.func65, Tryz.ntmps65
  go_wp2_with fail
  go_loopw [3, 9] (fun v q wr => ∃ i : Nat, q = .int .i64 (i : Int) ∧ i ≤ n ∧ (i = 0 → v = .slice none 0 0) ∧ Out w wr l i v ∧ Keep (fun _ => False) w wr) (fun _ q _ => n - (intOf q).toNat)
  case atStart => exact ⟨0, rfl, Nat.zero_le _, fun _ => rfl, HO.out _, Keep.refl _ _⟩
  case round =>
    obtain ⟨i, rfl, hin, hv0, ho, hk⟩ := hrel
    have HOU := Lib.hid ho
    have HK := Lib.hid hk
    clear ho hk
    by_cases hlt : i < n
    · obtain ⟨b, off, x, rfl, hx, hcell⟩ := HROW.out i hlt
      have c0 := hcell wr HK.out
      have HX := Lib.hid hx
      obtain ⟨i0, hi0, hz0, hz1, hz2⟩ := info_parts infoInt
      clear hcell hx
      rcases Nat.eq_zero_or_pos i with rfl | hpos
      · obtain rfl := hv0 rfl
        rw [Nat.add_zero] at c0
        go_wp2_with fail
        refine wp_loop_rounds 1 ?_
        rw [rounds_succ]
        go_wp2_with fail
        go_region_law (first
          | (refine step_nothing (s := .tmp 33) (x := .tmp 36) rfl rfl Tryz.underlying22 hi0 (some ⟨wr.heap.size, 0, none⟩) 1 1 (by simp [Act.eval, Act.put]) (by decide) none 0 (by simp [Act.eval, Act.put]) ?_)
          | (refine step_append_grows rfl (.tmp 31) (.tmp 37) _ rfl 3 i0 (.int .i64 0) 1 8 Tryz.underlying22 hi0 hz0 hz1 hz2 rfl (by decide) none 0 0 [] (by simp [Act.eval, Act.put]) (fun _ => ⟨rfl, rfl⟩) (by rfl) (fun b hb => by cases hb) ⟨wr.heap.size, 0, none⟩ 1 1 [.int .i64 x] (by simp [Act.eval, Act.put]) (by rfl) (World.news_of_block (heap_new wr _)) (by simp [Value.oneCell']) (by decide) (by unfold maxLen; omega) (by omega) ?_; intro v10 w10 ho10 hg10))
        all_goals (go_wp2_with fail)
        all_goals go_roundw
        case rel =>
          have hk10 : Keep (fun _ => False) wr w10 := Keep.grown (by repeat first | exact Keep.refl _ _ | assumption | apply Keep.alloc | apply Keep.drewN | apply Keep.drew | (refine Keep.setCell ?_ _ (fun h => absurd h (Nat.lt_irrefl _)))) hg10 (fun k h => by cases h)
          refine ⟨1, rfl, by omega, fun h => absurd h (by decide), ?_, HK.out.trans hk10 (fun _ _ h => h)⟩
          have e := HST.out 0 x HX.out
          unfold Out
          rw [← e]
          exact ho10.mono (by have := HK.out.size; simp; omega)
        case measure => simp [intOf]; omega
      · obtain ⟨p, rfl⟩ : ∃ p, i = p + 1 := ⟨i - 1, by omega⟩
        rcases HF.out wr _ _ HOU.out hin with ⟨rfl, h⟩ | ⟨g, cap, rfl, h1, h2, h3, h4⟩
        · exact absurd h (by omega)
        obtain ⟨_, _, y, -, hy, -⟩ := HROW.out p (by omega)
        have hyx : ¬ x < y := (by have := HASC.out p y x hy HX.out; omega)
        have hly : ∀ j z, (ints (l.take (p + 1)))[j]? = some z → wr.cell? ⟨g, j, none⟩ = some z := fun j z hj => by
          have := h4 j z hj; rwa [Nat.zero_add] at this
        have c1 : wr.cell? ⟨g, p, none⟩ = some (.int .i64 y) := hly p _ (by unfold ints; rw [List.getElem?_map, List.getElem?_take, if_pos (by omega), hy]; rfl)
        have HLY := Lib.hid hly
        have HLEN := Lib.hid (show (ints (l.take (p + 1))).length = (p + 1) * 1 by rw [ints_length, List.length_take, HNN.out]; omega)
        have H4 := Lib.hid h4
        have d1 : (0 : Int) ≤ (p : Int) + 1 := by omega
        have d2 : (p : Int) + 1 ≤ (cap : Int) := by omega
        clear hly h4 hv0 hy
        go_wp2_with fail
        refine wp_loop_rounds 1 ?_
        rw [rounds_succ]
        go_wp2_with fail
        go_region_law (first
          | (refine step_nothing (s := .tmp 33) (x := .tmp 36) rfl rfl Tryz.underlying22 hi0 (some ⟨wr.heap.size, 0, none⟩) 1 1 (by simp [Act.eval, Act.put]) (by decide) _ _ (by simp only [Act.eval, Act.put]; rfl) ?_)
          | (refine step_append_grows rfl (.tmp 31) (.tmp 37) _ rfl 3 i0 (.int .i64 0) 1 8 Tryz.underlying22 hi0 hz0 hz1 hz2 rfl (by decide) (some ⟨g, 0, none⟩) (p + 1) (p + 1) (ints (l.take (p + 1))) (by simp [Act.eval, Act.put]) (fun h => by cases h) HLEN.out (fun b hb j u hu => by cases hb; rw [Addr.add_lit, Nat.zero_add]; have hc := HLY.out j u hu; first | (rw [World.cell?_alloc_past _ _ _ (World.block_lt_of_cell? _ _ hc)]; exact hc) | exact (World.cell?_alloc_past _ _ _ (World.block_lt_of_cell? _ _ hc)).trans hc) ⟨wr.heap.size, 0, none⟩ 1 1 [.int .i64 x] (by simp [Act.eval, Act.put]) (by rfl) (World.news_of_block (heap_new wr _)) (by simp [Value.oneCell']) (by omega) (by unfold maxLen; omega) (by omega) ?_; intro v10 w10 ho10 hg10))
        all_goals (go_wp2_with fail)
        all_goals go_roundw
        case rel =>
          have hk10 : Keep (fun _ => False) wr w10 := Keep.grown (by repeat first | exact Keep.refl _ _ | assumption | apply Keep.alloc | apply Keep.drewN | apply Keep.drew | (refine Keep.setCell ?_ _ (fun h => absurd h (Nat.lt_irrefl _)))) hg10 (fun k h => by cases h)
          refine ⟨p + 1 + 1, by go_num, by omega, fun h => absurd h (by omega), ?_, HK.out.trans hk10 (fun _ _ h => h)⟩
          have e := HST.out (p + 1) x HX.out
          unfold Out
          rw [← e]
          exact ho10.mono (by have := HK.out.size; simp; omega)
        case measure => simp [intOf]; omega
    · obtain rfl : n = i := by omega
      have HFIN := Lib.hid (HALL.out _ _ HOU.out)
      go_wp2_with fail
      go_ret
      exact ⟨_, rfl, HFIN.out, HK.out⟩
set_option maxHeartbeats 4000000 in
set_option maxRecDepth 20000 in
theorem Nodes_spec {B : Nat} {w : World} {gv : Value} {g : IG} (h : GraphAt B w gv g) (ha : g.nodes.Pairwise (· ≤ ·)) (hn : g.nodes.length ≤ 1000) :
    Calls Tryz.prog 35 #[gv] w fun e w' => ∃ v', e = .returned v' ∧ w'.ownsRow w.heap.size 3 1 v' g.nodes.length (ints g.nodes) ∧ Keep (fun _ => False) w w' := by
  obtain ⟨na, nc, ea, ec, rfl, h1, h2⟩ := graph_lens h
  have hs := fun W (hk : Keep (fun _ => False) w W) => sortInts_spec (h1.keep hk (fun _ h => h.elim)) ha hn
  have hfin : ∀ (W : World) (v' : Value), W.ownsRow (w.alloc (.cells #[.bool g.dir, .slice na g.nodes.length nc, .slice ea g.edges.length ec] 25 (0, 0))).heap.size 3 1 v' g.nodes.length (ints g.nodes) → W.ownsRow w.heap.size 3 1 v' g.nodes.length (ints g.nodes) := fun W v' h => h.mono (by simp)
  generalize g.nodes.length = n at *
  have HS := Lib.hid hs
  have HF := Lib.hid hfin
  clear hs h h1 h2 hfin
  go_enter Tryz.func35, Tryz.ntmps35
  go_wp2_with (first
    | (((with_reducible refine (HS.out _ (by repeat first | exact Keep.refl _ _ | assumption | apply Keep.alloc | apply Keep.drewN | apply Keep.drew | (refine Keep.setCell ?_ _ (fun h => absurd h (Nat.lt_irrefl _))))).mono ?_); rintro e w1 ⟨v', rfl, hr, hk⟩); have HR := Lib.hid (HF.out _ _ hr); have HK := Lib.hid hk; clear hr hk))
  go_ret
  exact ⟨_, rfl, HR.out, ((Keep.refl _ w).alloc _).trans HK.out (fun _ _ h => h)⟩
end Go.Proofs.YtdaccgelmcmfjaaGreatDoor
end
/- spec.colorOf, spec.Weight, spec.Edges, spec.clash, spec.Proper: the graph of one edge. -/
section
namespace Go.Proofs.YtdaccgelmcmfjaaGreatDoor
open Go.RowKit Go.V
def g12 : IG := ⟨false, [1, 2], [(1, 2, 0)]⟩
set_option maxHeartbeats 4000000 in
set_option maxRecDepth 20000 in
theorem colorOf_spec {w : World} {v : Value} {P : List (Int × Int)} {u c : Int} {j : Nat} (h : PRow w v P) (hP : P.length ≤ 1000) (hj : P[j]? = some (u, c)) (hn : ∀ t p, t < j → P[t]? = some p → p.1 ≠ u) :
    Calls Tryz.prog 67 #[v, .int .i64 u] w fun e w' => e = .returned (.tuple #[.int .i64 c, .bool true]) ∧ Keep (fun _ => False) w w' := by
  obtain ⟨g, cap, rfl, hc, hg⟩ := h
  have hcc := fun W (hk : Keep (fun _ => False) w W) k p (hp : P[k]? = some p) => PRow.cells (hc.keep hk (fun h => h)) hp
  have hrow : ∀ j, j < P.length → ∃ p, P[j]? = some p := fun j hj => ⟨_, List.getElem?_eq_getElem hj⟩
  have hjl := (List.getElem?_eq_some_iff.1 hj).1
  generalize hN : P.length = N at *
  have HCC := Lib.hid hcc
  have HROW := Lib.hid hrow
  have HJ := Lib.hid hj
  have HNE := Lib.hid hn
  clear hcc hrow hj hn hc hN
  go_enter Tryz.func67, Tryz.ntmps67
  go_wp2_with fail
  go_loopw [10] (fun q wr => ∃ i : Nat, q = .int .i64 (i : Int) ∧ i ≤ j ∧ Keep (fun _ => False) w wr) (fun q _ => N - (intOf q).toNat)
  case atStart => exact ⟨0, rfl, Nat.zero_le _, Keep.refl _ _⟩
  case round =>
    obtain ⟨i, rfl, hij, hk⟩ := hrel
    have HK := Lib.hid hk
    clear hk
    obtain ⟨p, hp⟩ := HROW.out i (by omega)
    obtain ⟨c0, c1⟩ := HCC.out wr HK.out i p hp
    obtain ⟨x, y⟩ := p
    dsimp only at c0 c1
    have hi1 : (i : Int) < (N : Int) := by omega
    by_cases hlt : i < j
    · have hne : (x == u) = false := by simpa using HNE.out i _ hlt hp
      clear hp
      go_wp2_with fail
      go_roundw
      case rel => exact ⟨i + 1, by go_num, by omega, HK.out.alloc _⟩
      case measure => simp [intOf]; omega
    · obtain rfl : i = j := by omega
      have e := HJ.out
      rw [hp] at e
      cases e
      clear hp
      go_wp2_with fail
      go_ret2
      exact ⟨rfl, HK.out.alloc _⟩
theorem g12_at {B : Nat} {w : World} {gv : Value} (h : GraphAt B w gv g12) : ∃ na nc b off ec, gv = .agg #[.bool false, .slice na 2 nc, .slice (some ⟨b, off, none⟩) 1 ec] ∧ ∀ W, Keep (fun _ => False) w W → W.cell? ⟨b, off, none⟩ = some (.int .i64 1) ∧ W.cell? ⟨b, off + 1, none⟩ = some (.int .i64 2) ∧ W.cell? ⟨b, off + 2, none⟩ = some (.int .i64 0) := by
  obtain ⟨na, nc, ea, ec, rfl, h1, h2⟩ := graph_lens h
  obtain ⟨b, off, e, rfl, he, hc⟩ := row3_at (k := 0) h2 (by decide)
  have : e = (1, 2, 0) := by simpa [g12] using he.symm
  subst this
  exact ⟨na, nc, b, off, ec, rfl, fun W hk => by simpa using hc W hk⟩
theorem boxG3 {w : World} {d : Bool} {x y : Value} (W : World) (hk : Keep (fun _ => False) (w.alloc (.cells #[.bool d, x, y] 25 (0, 0))) W) : W.cell? ⟨w.heap.size, 0, none⟩ = some (.bool d) ∧ W.cell? ⟨w.heap.size, 1, none⟩ = some x ∧ W.cell? ⟨w.heap.size, 2, none⟩ = some y := boxG (heap_new w _) W hk
set_option maxHeartbeats 8000000 in
set_option maxRecDepth 20000 in
theorem Weight_spec {B : Nat} {w : World} {gv : Value} (h : GraphAt B w gv g12) (u v : Int) (hu : u = 1 ∨ u = 2) (hv : v = 1 ∨ v = 2) :
    Calls Tryz.prog 118 #[gv, .int .i64 u, .int .i64 v] w fun e w' => e = .returned (.tuple #[.int .i64 0, .bool (decide (u ≠ v))]) ∧ Keep (fun _ => False) w w' := by
  obtain ⟨na, nc, b, off, ec, rfl, hc⟩ := g12_at h
  have hx := @boxG3 w false (.slice na 2 nc) (.slice (some ⟨b, off, none⟩) 1 ec)
  have HC := Lib.hid hc
  have HX := Lib.hid hx
  clear hc hx h
  obtain ⟨x0, x1, x2⟩ := HX.out _ (Keep.refl _ _)
  obtain ⟨y0, y1, y2⟩ := HC.out (w.alloc (.cells #[.bool false, .slice na 2 nc, .slice (some ⟨b, off, none⟩) 1 ec] 25 (0, 0))) (by repeat first | exact Keep.refl _ _ | assumption | apply Keep.alloc | apply Keep.drewN | apply Keep.drew | (refine Keep.setCell ?_ _ (fun h => absurd h (Nat.lt_irrefl _))))
  have z0 := fun o => (HX.out ((w.alloc (.cells #[.bool false, .slice na 2 nc, .slice (some ⟨b, off, none⟩) 1 ec] 25 (0, 0))).alloc o) (by repeat first | exact Keep.refl _ _ | assumption | apply Keep.alloc | apply Keep.drewN | apply Keep.drew | (refine Keep.setCell ?_ _ (fun h => absurd h (Nat.lt_irrefl _))))).1
  rcases hu with rfl | rfl <;> rcases hv with rfl | rfl
  all_goals
    go_enter Tryz.func118, Tryz.ntmps118
    go_wp2_with fail
    refine wp_loop_rounds 2 ?_
    rw [rounds_succ]
    go_wp2_with fail
    rw [rounds_succ]
    go_wp2_with fail
    go_ret2
    exact ⟨rfl, ((Keep.refl _ w).alloc _).alloc _⟩
def EV (w0 W : World) (b : Bool) (v : Value) : Prop := match b with
  | false => v = .slice none 0 0
  | true => W.ownsRow w0.heap.size 51 3 v 1 [.int .i64 1, .int .i64 2, .int .i64 0]
theorem EV.keep {w0 W W' : World} {b : Bool} {v : Value} (h : EV w0 W b v) (hk : Keep (fun _ => False) W W') : EV w0 W' b v := by
  cases b with
  | false => exact h
  | true => exact ownsRow_keep' h hk (fun _ _ h => h)
theorem ints12 {w0 W : World} {v : Value} (h : W.ownsRow w0.heap.size 3 1 v 2 (ints [1, 2])) : ∃ g c, v = .slice (some ⟨g, 0, none⟩) 2 c ∧ ∀ W', Keep (fun _ => False) W W' → W'.cell? ⟨g, 0, none⟩ = some (.int .i64 1) ∧ W'.cell? ⟨g, 1, none⟩ = some (.int .i64 2) := by
  rcases owns_row h with ⟨_, h0⟩ | ⟨g, cap, rfl, hb, hg, hc, _, h1, h2⟩
  · cases h0
  · exact ⟨g, cap, rfl, fun W' hk => ⟨(hc.keep hk (fun h => h)) 0 _ rfl, (hc.keep hk (fun h => h)) 1 _ rfl⟩⟩
def Got12 (w : World) (e : Ending) (w' : World) : Prop := ∃ g c, e = .returned (.slice (some ⟨g, 0, none⟩) 2 c) ∧ (∀ W', Keep (fun _ => False) w' W' → ∀ i : Nat, i < 2 → W'.cell? ⟨g, i, none⟩ = some (.int .i64 ((i : Int) + 1))) ∧ Keep (fun _ => False) w w'
theorem Nodes12_spec {B : Nat} {w : World} {gv : Value} (h : GraphAt B w gv g12) : Calls Tryz.prog 35 #[gv] w (Got12 w) := by
  refine (Nodes_spec h (by decide) (by decide)).mono ?_
  rintro e w' ⟨v, rfl, hr, hk⟩
  obtain ⟨g, c, rfl, hh⟩ := ints12 hr
  refine ⟨g, c, rfl, fun W' hk i hi => ?_, hk⟩
  rcases (show i = 0 ∨ i = 1 by omega) with rfl | rfl
  · exact (hh W' hk).1
  · exact (hh W' hk).2
set_option maxHeartbeats 8000000 in
set_option maxRecDepth 20000 in
theorem Edges_spec {B : Nat} {w : World} {gv : Value} (h : GraphAt B w gv g12) :
    Calls Tryz.prog 66 #[gv] w fun e w' => ∃ v, e = .returned v ∧ EV w w' true v ∧ Keep (fun _ => False) w w' := by
  have hN := fun W (hk : Keep (fun _ => False) w W) => Nodes12_spec (h.keepF hk)
  unfold Got12 at hN
  have hW := fun W (hk : Keep (fun _ => False) w W) u v hu hv => Weight_spec (h.keepF hk) u v hu hv
  obtain ⟨na, nc, b, off, ec, rfl, -⟩ := g12_at h
  have hx := @boxG3 w false (.slice na 2 nc) (.slice (some ⟨b, off, none⟩) 1 ec)
  have hk0 : Keep (fun _ => False) w (w.alloc (.cells #[.bool false, .slice na 2 nc, .slice (some ⟨b, off, none⟩) 1 ec] 25 (0, 0))) := (Keep.refl _ w).alloc _
  have HN := Lib.hid hN
  have HW := Lib.hid hW
  have HX := Lib.hid hx
  have HK0 := Lib.hid hk0
  clear hN hW hx h hk0
  go_enter Tryz.func66, Tryz.ntmps66
  obtain ⟨x0, x1, x2⟩ := HX.out _ (Keep.refl _ _)
  go_wp2_with (first
    | (((with_reducible refine (HN.out _ HK0.out).mono ?_); rintro e w1 ⟨g, c, rfl, hc, hk⟩); have HCN := Lib.hid hc; have HK1 := Lib.hid hk; clear hc hk))
  have hkw1 := HK0.out.trans HK1.out (fun _ _ h => h)
  have HKW := Lib.hid hkw1
  clear hkw1
  go_loopw [3, 13] (fun v q wr => ∃ i : Nat, q = .int .i64 (i : Int) ∧ i ≤ 2 ∧ EV w wr (decide (0 < i)) v ∧ Keep (fun _ => False) w1 wr) (fun _ q _ => 2 - (intOf q).toNat)
  case atStart => exact ⟨0, rfl, Nat.zero_le _, rfl, Keep.refl _ _⟩
  case round =>
    obtain ⟨i, rfl, hi2, hev, hkr⟩ := hrel
    have HEV := Lib.hid hev
    have HKR := Lib.hid hkr
    have HKWR := Lib.hid (HKW.out.trans hkr (fun _ _ h => h))
    obtain ⟨z0, z1, z2⟩ := HX.out wr (HK1.out.trans hkr (fun _ _ h => h))
    by_cases hlt : i < 2
    · have n0 := HCN.out wr hkr i hlt
      clear hev hkr x0 x1 x2
      go_wp2_with (first
        | (((with_reducible refine (HN.out _ HKWR.out).mono ?_); rintro e w2 ⟨g2, c2, rfl, hc, hk⟩); have HCM := Lib.hid hc; have HK2 := Lib.hid hk; clear hc hk))
      clear z0 z1 z2
      generalize wr = wo at *
      go_loopw [3, 20] (fun v q wr => ∃ j : Nat, q = .int .i64 (j : Int) ∧ j ≤ 2 ∧ EV w wr (decide (0 < i ∨ 1 < j)) v ∧ Keep (fun _ => False) w2 wr) (fun _ q _ => 2 - (intOf q).toNat)
      case atStart => exact ⟨0, rfl, Nat.zero_le _, by simpa using HEV.out.keep HK2.out, Keep.refl _ _⟩
      case round =>
        obtain ⟨j, rfl, hj2, hev2, hkr2⟩ := hrel
        clear HEV
        have HEV2 := Lib.hid hev2
        have HKR2 := Lib.hid hkr2
        have HKWJ := Lib.hid ((HKWR.out.trans HK2.out (fun _ _ h => h)).trans hkr2 (fun _ _ h => h))
        have HK1J := Lib.hid (((HK1.out.trans HKR.out (fun _ _ h => h)).trans HK2.out (fun _ _ h => h)).trans hkr2 (fun _ _ h => h))
        obtain ⟨z0, z1, z2⟩ := HX.out wr HK1J.out
        by_cases hlj : j < 2
        · have m0 := HCM.out wr hkr2 j hlj
          have hww := HW.out wr HKWJ.out ((i : Int) + 1) ((j : Int) + 1) (by omega) (by omega)
          have hz := fun W hk => HX.out W (HK1J.out.trans hk (fun _ _ h => h))
          have HWW := Lib.hid hww
          have HZ := Lib.hid hz
          clear hev2 hkr2 hww hz
          obtain ⟨d, hd⟩ : ∃ d, decide ((i : Int) + 1 ≠ (j : Int) + 1) = d := ⟨_, rfl⟩
          rw [hd] at HWW
          have HD := Lib.hid hd
          clear hd
          cases d
          · have hne : i = j := by have := HD.out; simp at this; omega
            have hev4 : ∀ W, Keep (fun _ => False) wr W → EV w W (decide (0 < i ∨ 1 < j + 1)) u3 := fun W hk => by
              have h := HEV2.out.keep hk
              subst hne
              rcases (show i = 0 ∨ i = 1 by omega) with rfl | rfl <;> simpa using h
            have HEV4 := Lib.hid hev4
            clear hne hev4
            go_wp2_with (first
              | (((with_reducible refine (HWW.out).mono ?_); rintro e w3 ⟨rfl, hk3⟩); obtain ⟨y0, y1, y2⟩ := HZ.out w3 hk3; have HK3 := Lib.hid hk3; clear hk3))
            go_roundw
            case rel => exact ⟨j + 1, by go_num, by omega, HEV4.out _ HK3.out, HKR2.out.trans HK3.out (fun _ _ h => h)⟩
            case measure => simp [intOf]; omega
          · have hne : i ≠ j := by have := HD.out; simp at this; omega
            rcases (show i < j ∨ j < i by omega) with hij | hij
            · have hij' : (i : Int) < (j : Int) := by omega
              have e0 : u3 = .slice none 0 0 := by
                have h := HEV2.out
                rw [show decide (0 < i ∨ 1 < j) = false by simp; omega] at h
                exact h
              subst e0
              have hv : [Value.int .i64 ((i : Int) + 1), .int .i64 ((j : Int) + 1), .int .i64 0] = [.int .i64 1, .int .i64 2, .int .i64 0] := by
                rw [show i = 0 by omega, show j = 1 by omega]; rfl
              have HV := Lib.hid hv
              clear hv hne hij
              go_wp2_with (first
                | (((with_reducible refine (HWW.out).mono ?_); rintro e w3 ⟨rfl, hk3⟩); obtain ⟨y0, y1, y2⟩ := HZ.out w3 hk3; have HK3 := Lib.hid hk3; have HKW3 := Lib.hid (HKWJ.out.trans hk3 (fun _ _ h => h)); clear hk3)
                | (at_builtin; refine wpList_push2 rfl rfl HKW3.out (by repeat first | exact Keep.refl _ _ | assumption | apply Keep.alloc | apply Keep.drewN | apply Keep.drew | (refine Keep.setCell ?_ _ (fun h => absurd h (Nat.lt_irrefl _)))) infoEdge Tryz.underlying23 rfl (by decide) _ 0 [] rfl (World.ownsRow_nil _ _ _ _) _ 1 1 [.int .i64 ((i : Int) + 1), .int .i64 ((j : Int) + 1), .int .i64 0] rfl rfl (World.news_of_block (heap_new w3 _)) (by simp [Value.oneCell']) (by decide) (by unfold maxLen; omega) (by omega) ?_; intro g4 cap4 w4 hr4 hk4 hg4 hl4 hkk4; rw [HV.out] at hr4; have HR4 := Lib.hid hr4; have HKK4 := Lib.hid hkk4; clear hr4 hk4 hkk4))
              go_roundw
              case rel =>
                have hk34 : Keep (fun _ => False) w3 w4 := ((Keep.refl (fun _ => False) w3).alloc _).trans HKK4.out (fun b _ h => by cases h)
                refine ⟨j + 1, by go_num, by omega, ?_, (HKR2.out.trans HK3.out (fun _ _ h => h)).trans hk34 (fun _ _ h => h)⟩
                rw [show decide (0 < i ∨ 1 < j + 1) = true by simp; omega]
                exact HR4.out
              case measure => simp [intOf]; omega
            · have hij' : ¬ (i : Int) < (j : Int) := by omega
              have hev4 : ∀ W, Keep (fun _ => False) wr W → EV w W (decide (0 < i ∨ 1 < j + 1)) u3 := fun W hk => by
                have h := HEV2.out.keep hk
                rw [show decide (0 < i ∨ 1 < j) = true by simp; omega] at h
                rw [show decide (0 < i ∨ 1 < j + 1) = true by simp; omega]
                exact h
              have HEV4 := Lib.hid hev4
              clear hne hev4 hij
              go_wp2_with (first
                | (((with_reducible refine (HWW.out).mono ?_); rintro e w3 ⟨rfl, hk3⟩); obtain ⟨y0, y1, y2⟩ := HZ.out w3 hk3; have HK3 := Lib.hid hk3; clear hk3))
              go_roundw
              case rel => exact ⟨j + 1, by go_num, by omega, HEV4.out _ HK3.out, HKR2.out.trans HK3.out (fun _ _ h => h)⟩
              case measure => simp [intOf]; omega
        · obtain rfl : j = 2 := by omega
          clear hev2 hkr2
          go_wp2_with fail
          go_roundw
          case rel => exact ⟨i + 1, by go_num, by omega, by have h := HEV2.out; simpa using h, (HKR.out.trans HK2.out (fun _ _ h => h)).trans HKR2.out (fun _ _ h => h)⟩
          case measure => simp [intOf]; omega
    · obtain rfl : i = 2 := by omega
      have HF := Lib.hid (show EV w wr true u3 from hev)
      clear hev hkr
      go_wp2_with fail
      go_ret
      exact ⟨_, rfl, HF.out, HKWR.out⟩
theorem EV.row {w0 W : World} {v : Value} (h : EV w0 W true v) : ∃ g c, v = .slice (some ⟨g, 0, none⟩) 1 c ∧ ∀ W', Keep (fun _ => False) W W' → W'.cell? ⟨g, 0, none⟩ = some (.int .i64 1) ∧ W'.cell? ⟨g, 1, none⟩ = some (.int .i64 2) ∧ W'.cell? ⟨g, 2, none⟩ = some (.int .i64 0) := by
  rcases owns_row h with ⟨_, h0⟩ | ⟨g, cap, rfl, hb, hg, hc, _, h1, h2⟩
  · cases h0
  · exact ⟨g, cap, rfl, fun W' hk => ⟨(hc.keep hk (fun h => h)) 0 _ rfl, (hc.keep hk (fun h => h)) 1 _ rfl, (hc.keep hk (fun h => h)) 2 _ rfl⟩⟩
set_option maxHeartbeats 8000000 in
set_option maxRecDepth 20000 in
theorem clash_spec {B : Nat} {w : World} {gv v : Value} {a b : Int} (h : GraphAt B w gv g12) (hr : PRow w v [(1, a), (2, b)]) (hab : a ≠ b) :
    Calls Tryz.prog 36 #[gv, v] w fun e w' => e = .returned (.bool false) ∧ Keep (fun _ => False) w w' := by
  have hE := fun W (hk : Keep (fun _ => False) w W) => Edges_spec (h.keepF hk)
  have hc1 := fun W (hk : Keep (fun _ => False) w W) => colorOf_spec (u := 1) (c := a) (j := 0) (hr.keepF hk) (by simp) rfl (fun t p ht => absurd ht (Nat.not_lt_zero _))
  have hc2 := fun W (hk : Keep (fun _ => False) w W) => colorOf_spec (u := 2) (c := b) (j := 1) (hr.keepF hk) (by simp) rfl (fun t p ht hp => by
    obtain rfl : t = 0 := by omega
    cases hp; show (1 : Int) ≠ 2; decide)
  have hne : (a == b) = false := by simpa using hab
  obtain ⟨na, nc, bb, off, ec, rfl, -⟩ := g12_at h
  have hx := @boxG3 w false (.slice na 2 nc) (.slice (some ⟨bb, off, none⟩) 1 ec)
  have hk0 : Keep (fun _ => False) w (w.alloc (.cells #[.bool false, .slice na 2 nc, .slice (some ⟨bb, off, none⟩) 1 ec] 25 (0, 0))) := (Keep.refl _ w).alloc _
  have HE := Lib.hid hE
  have HC1 := Lib.hid hc1
  have HC2 := Lib.hid hc2
  have HX := Lib.hid hx
  have HK0 := Lib.hid hk0
  clear hE hx h hk0 hr hc1 hc2 hab
  go_enter Tryz.func36, Tryz.ntmps36
  obtain ⟨x0, x1, x2⟩ := HX.out _ (Keep.refl _ _)
  go_wp2_with (first
    | (((with_reducible refine (HE.out _ HK0.out).mono ?_); rintro e w1 ⟨v1, rfl, hv, hk⟩); obtain ⟨g, c, rfl, hc⟩ := hv.row; have HCE := Lib.hid hc; have HK1 := Lib.hid (HK0.out.trans hk (fun _ _ h => h)); clear hc hv hk))
  refine wp_loop_rounds 2 ?_
  rw [rounds_succ]
  obtain ⟨e0, e1, e2⟩ := HCE.out w1 (Keep.refl _ _)
  have hb := fun W hk => boxE (heap_new w1 (.cells #[.int .i64 1, .int .i64 2, .int .i64 0] 51 (0, 0))) W hk
  have HB := Lib.hid hb
  have hka : Keep (fun _ => False) w (w1.alloc (.cells #[.int .i64 1, .int .i64 2, .int .i64 0] 51 (0, 0))) := HK1.out.alloc _
  have HKA := Lib.hid hka
  clear hb hka
  go_wp2_with (first
    | (((with_reducible refine (HC1.out _ HKA.out).mono ?_); rintro e w2 ⟨rfl, hk2⟩); obtain ⟨b0, b1, b2⟩ := HB.out w2 hk2; have HK2 := Lib.hid hk2; have HKA2 := Lib.hid (HKA.out.trans hk2 (fun _ _ h => h)); clear hk2)
    | (((with_reducible refine (HC2.out _ HKA2.out).mono ?_); rintro e w3 ⟨rfl, hk3⟩); have HK3 := Lib.hid (HKA2.out.trans hk3 (fun _ _ h => h)); clear hk3))
  rw [rounds_succ]
  go_wp2_with fail
  go_ret
  exact ⟨rfl, HK3.out⟩
set_option maxHeartbeats 8000000 in
set_option maxRecDepth 20000 in
theorem Proper_spec {B : Nat} {w : World} {gv v : Value} {a b : Int} (h : GraphAt B w gv g12) (hr : PRow w v [(1, a), (2, b)]) (hab : a ≠ b) :
    Calls Tryz.prog 18 #[gv, v] w fun e w' => e = .returned (.bool true) ∧ Keep (fun _ => False) w w' := by
  have hN := fun W (hk : Keep (fun _ => False) w W) => Nodes12_spec (h.keepF hk)
  unfold Got12 at hN
  have hcl := fun W (hk : Keep (fun _ => False) w W) => clash_spec (h.keepF hk) (hr.keepF hk) hab
  obtain ⟨gr, cr, e, hcr, hgr⟩ := hr
  have e2 : v = .slice (some ⟨gr, 0, none⟩) 2 cr := e
  clear e
  subst e2
  have hcc := fun W (hk : Keep (fun _ => False) w W) k p (hp : [(1, a), (2, b)][k]? = some p) => PRow.cells (hcr.keep hk (fun h => h)) hp
  have hc : ∀ W, Keep (fun _ => False) w W → W.cell? ⟨gr, 0, none⟩ = some (.int .i64 1) ∧ W.cell? ⟨gr, 2, none⟩ = some (.int .i64 2) := fun W hk => ⟨(hcc W hk 0 _ rfl).1, (hcc W hk 1 _ rfl).1⟩
  obtain ⟨na, nc, bb, off, ec, rfl, -⟩ := g12_at h
  have hx := @boxG3 w false (.slice na 2 nc) (.slice (some ⟨bb, off, none⟩) 1 ec)
  have hk0 : Keep (fun _ => False) w (w.alloc (.cells #[.bool false, .slice na 2 nc, .slice (some ⟨bb, off, none⟩) 1 ec] 25 (0, 0))) := (Keep.refl _ w).alloc _
  have HN := Lib.hid hN
  have HCL := Lib.hid hcl
  have HC := Lib.hid hc
  have HX := Lib.hid hx
  have HK0 := Lib.hid hk0
  clear hN hx h hk0 hcl hcc hc hcr hab
  go_enter Tryz.func18, Tryz.ntmps18
  obtain ⟨x0, x1, x2⟩ := HX.out _ (Keep.refl _ _)
  go_wp2_with (first
    | (((with_reducible refine (HN.out _ HK0.out).mono ?_); rintro e w1 ⟨g, c, rfl, hc, hk⟩); obtain ⟨y0, y1, y2⟩ := HX.out _ hk; have m0 := hc w1 (Keep.refl _ _) 0 (by decide); have m1 := hc w1 (Keep.refl _ _) 1 (by decide); have HK1 := Lib.hid (HK0.out.trans hk (fun _ _ h => h)); obtain ⟨n0, n1⟩ := HC.out w1 HK1.out; clear hc hk))
  refine wp_loop_rounds 3 ?_
  rw [rounds_succ]
  go_wp2_with fail
  rw [rounds_succ]
  go_wp2_with fail
  rw [rounds_succ]
  go_wp2_with (first
    | (((with_reducible refine (HCL.out _ HK1.out).mono ?_); rintro e w2 ⟨rfl, hk2⟩); have HK2 := Lib.hid (HK1.out.trans hk2 (fun _ _ h => h)); clear hk2))
  go_ret
  exact ⟨rfl, HK2.out⟩
end Go.Proofs.YtdaccgelmcmfjaaGreatDoor
end
/- impl.colors: the list that it hands back. -/
section
namespace Go.Proofs.YtdaccgelmcmfjaaGreatDoor
open Go.RowKit Go.V Go.Sort Go.Lib
abbrev cPair (p : Int × Nat) : Int × Int := (p.1, (p.2 : Int))
theorem cdel_perm {k : Int} {c : Nat} : ∀ {R : PC}, (R.map (·.1)).Nodup → cget R k = some c → R.Perm ((k, c) :: cdel R k)
  | [], _, h => by simp [cget] at h
  | (k', c') :: R, hn, h => by
    rw [List.map_cons, List.nodup_cons] at hn
    by_cases e : k' = k
    · subst e
      have hc : c' = c := by simpa [cget] using h
      subst hc
      have hd : cdel R k' = R := by
        unfold cdel
        rw [List.filter_eq_self]
        intro p hp
        have : p.1 ≠ k' := fun e => hn.1 (by have h := List.mem_map_of_mem (f := fun q : Int × Nat => q.1) hp; rw [e] at h; exact h)
        simpa using this
      have : cdel ((k', c') :: R) k' = cdel R k' := by simp [cdel]
      rw [this, hd]
    · have h' : cget R k = some c := by simpa [cget, e] using h
      have hd : cdel ((k', c') :: R) k = (k', c') :: cdel R k := by simp [cdel, e]
      rw [hd]
      exact ((cdel_perm hn.2 h').cons _).trans (List.Perm.swap _ _ _)
theorem perm_step {D R : PC} {xs : List (Int × Int)} {k : Int} {c : Nat} (hn : (R.map (·.1)).Nodup) (hc : cget R k = some c) (h : (xs ++ R.map cPair).Perm (D.map cPair)) : ((xs ++ [(k, (c : Int))]) ++ (cdel R k).map cPair).Perm (D.map cPair) := by
  refine List.Perm.trans ?_ h
  rw [List.append_assoc]
  exact List.Perm.append_left _ (((cdel_perm hn hc).map cPair).symm)
theorem sortColorsL_spec {w : World} {g cap n : Nat} {l : List (Int × Int)} (hc : Cells w g 0 (l.flatMap pairA)) (hf : ∀ i, w.frozen? ⟨g, i, none⟩ = false) (hg : g < w.heap.size) (hn : l.length = n) (hl : n ≤ 1000000) :
    Calls Tryz.prog 59 #[.slice (some ⟨g, 0, none⟩) n cap, .func (.func 60) #[] #[]] w fun e w' => e = .returned (.tuple #[]) ∧ ∃ l' : List (Int × Int), Cells w' g 0 (l'.flatMap pairA) ∧ l'.Perm l ∧ l'.Pairwise (fun x y => x.1 ≤ y.1) ∧ Keep (fun b => b = g) w w' := by
  have eg : ∀ args w, (callFunc 60 args).run Tryz.prog w = .ok (.enter 60 args) w := enters_of Tryz.func60 (by kernel_rfl) rfl
  have hcmp : CmpLays Tryz.prog 60 #[] pairA 2 (fun x y => sgn x.1 y.1) g 0 l.toArray.size w := fun m os dk _ x y =>
    (colorsC_spec x.1 x.2 y.1 y.2 _).mono (by rintro e w' ⟨rfl, os', rfl⟩; exact ⟨rfl, 0, os', rfl⟩)
  have hH := holdsK_of pairA 2 (fun _ => rfl) (by decide) hc hf
  have hs1 := Tryz.slices_SortFunc_f59 2 (fun _ => by kernel_rfl) (fun _ => by kernel_rfl) pairA (fun _ => rfl) (fun x v hv => by simp at hv; rcases hv with rfl | rfl <;> rfl) (fun x y => sgn x.1 y.1) swoC 60 #[] g 0 cap l.toArray w eg hcmp hH hg (by simp; omega)
  rw [show l.toArray.size = n by simpa using hn] at hs1
  refine hs1.mono ?_
  rintro e w' ⟨rfl, d', k, os, hp, hso, rfl⟩
  have hsz : d'.size = n := by have := hp.1; simpa [hn] using this
  have hpe : d'.toList.Perm l := by
    have h := hp.2.2
    rw [Array.extract_eq_self_of_le (by omega), Array.extract_eq_self_of_le (by simp; omega)] at h
    exact h
  refine ⟨rfl, d'.toList, cells_of_holdsK pairA 2 (fun _ => rfl) (by decide) (holdsK_sorted pairA 2 hg hH (by simp [hsz, hn])), hpe, ?_, keep_sortWorldK ..⟩
  rw [List.pairwise_iff_getElem]
  intro i j hi hj hij
  have h := hso i j (Nat.zero_le _) hij (by simpa [hsz] using hj)
  have hj' : j < d'.size := by simpa using hj
  have hi' : i < d'.size := by simpa using hi
  rw [getElem!_pos d' j hj', getElem!_pos d' i hi'] at h
  unfold ltOf at h
  simp only [decide_eq_false_iff_not, sgn_lt] at h
  rw [Array.getElem_toList, Array.getElem_toList]
  omega
theorem sortRowL_spec {w : World} {B n : Nat} {v : Value} {l : List (Int × Int)} (h : w.ownsRow B 107 2 v n (l.flatMap pairA)) (hl : l.length = n) (h0 : 0 < n) (hn : n ≤ 1000000) :
    Calls Tryz.prog 59 #[v, .func (.func 60) #[] #[]] w fun e w' => e = .returned (.tuple #[]) ∧ ∃ l' : List (Int × Int), PRow w' v l' ∧ l'.Perm l ∧ l'.Pairwise (fun x y => x.1 ≤ y.1) ∧ Keep (fun b => v.ownBlock = some b) w w' := by
  rcases owns_row h with ⟨rfl, h1⟩ | ⟨g, cap, rfl, hb, hg, hc, hf, h1, h2⟩
  · omega
  · refine (sortColorsL_spec hc hf hg hl hn).mono ?_
    rintro e w' ⟨rfl, l', q1, q2, q3, hk⟩
    refine ⟨rfl, l', ⟨g, cap, by rw [q2.length_eq, hl], q1, Nat.lt_of_lt_of_le hg hk.size⟩, q2, q3, hk.mono (fun b _ h => by subst h; rfl)⟩
def ColL (w' : World) (D : PC) (v : Value) : Prop := ∃ l' : List (Int × Int), PRow w' v l' ∧ l'.Perm (D.map cPair) ∧ l'.Pairwise (fun x y => x.1 ≤ y.1)
set_option maxHeartbeats 8000000 in
set_option maxRecDepth 20000 in
theorem colorsL_spec {w : World} {m : Nat} {D : PC} (h : ColAt w m D) (h0 : 0 < D.length) (hlen : D.length ≤ 1000) :
    Calls Tryz.prog 32 #[.map (some m)] w fun e w' => ∃ v, e = .returned v ∧ ColL w' D v ∧ Keep (fun _ => False) w w' := by
  unfold ColL
  have hnd := h.nodup
  have HND := Lib.hid hnd
  have H := Lib.hid h
  have hlt := h.lt
  have hown0 : ∀ (W : World) (B : Nat), W.ownsRow B 107 2 (.slice none 0 0) 0 [] := fun W B => World.ownsRow_nil W B _ _
  have HO := Lib.hid hown0
  clear h hnd hown0
  go_enter Tryz.func32, Tryz.ntmps32
  go_wp2_with (first
    | (at_range; refine wpList_range_kv rfl _ _ rfl 2 3 Tryz.underlying83 m _ rfl H.out ?_; intro w1 hr hk hs; have HR := Lib.hid hr; have HK := Lib.hid hk; have HS := Lib.hid hs; clear hr hk hs; go_frame))
  go_loopg [3] (D.length + 1) (fun gk a3 wr => ∃ (R : PC) (xs : List (Int × Int)), R.length + 1 = gk ∧ Rng wr w.heap.size m (ckv D) (ckv R) ∧ R.Sublist D ∧ (xs ++ R.map cPair).Perm (D.map cPair) ∧ wr.ownsRow w1.heap.size 107 2 a3 xs.length (xs.flatMap pairA) ∧ Keep (fun b => b = w.heap.size) w1 wr)
  case atStart => exact ⟨D, [], rfl, HR.out, List.Sublist.refl _, by simp, HO.out _ _, Keep.refl _ _⟩
  case round =>
    obtain ⟨R, xs, hgk, hr, hsub, hpe, hrow, hk⟩ := hrel
    clear HR
    have hle : xs.length + R.length = D.length := by have := hpe.length_eq; simpa using this
    have HR := Lib.hid hr
    have HROW := Lib.hid hrow
    have HKW := Lib.hid hk
    have HGK := Lib.hid hgk
    have HSUB := Lib.hid hsub
    have HPE := Lib.hid hpe
    have hw1 := HS.out
    clear hr hrow hk hgk hsub hpe
    have hcs : ∀ g, (u3 : Value).ownBlock = some g → w1.heap.size ≤ g := fun g hg => (HROW.out.lt g hg).1
    have hlx : xs.length ≤ 1000 := by omega
    have HLE := Lib.hid hle
    clear hle
    go_wp2_with (first
      | (at_next; refine wpList_next_ent rfl _ rfl w.heap.size m _ _ rfl HR.out ?_ ?_; rotate_left; intro k v w2 hmem hr2 hk2 hs2 hent; obtain ⟨c, hc, rfl⟩ := mem_ckv hmem; rw [kdel_ckv] at hr2; have HR2 := Lib.hid hr2; have hk3 := HKW.out.trans hk2 (fun b hb e => e); have HK3 := Lib.hid hk3; have hrow2 := ownsRow_keep' HROW.out hk2 (fun b hb e => by have := hcs b hb; omega); have HROW2 := Lib.hid hrow2; have HC := Lib.hid hc; have HS2 := Lib.hid hs2; clear hmem hr2 hk2 hk3 hrow2 hc hs2; rotate_left; intro hnil; have HNIL := Lib.hid hnil; clear hnil)
      | (at_builtin; refine wpList_push2 rfl rfl HK3.out (by repeat first | exact Keep.refl _ _ | assumption | apply Keep.alloc | apply Keep.drewN | apply Keep.drew | (refine Keep.setCell ?_ _ (fun h => absurd h (Nat.lt_irrefl _)))) infoColor Tryz.underlying42 rfl (by decide) _ _ _ rfl HROW2.out _ 1 1 (pairA (k, (c : Int))) rfl rfl (World.news_of_block (heap_new w2 _)) (by simp [Value.oneCell']) (by decide) (by unfold maxLen; omega) (by omega) ?_; intro g2 cap2 w4 hr4 hk4 hg4 hl4 hkk4; have HR4 := Lib.hid hr4; have HK4 := Lib.hid hk4; have HKK4 := Lib.hid hkk4; clear hr4 hk4 hkk4))
    · have hR : R = [] := by have := HNIL.out; simpa [ckv] using this
      subst hR
      have hxp : xs.Perm (D.map cPair) := by simpa using HPE.out
      have hxl : xs.length = D.length := by simpa using HLE.out
      have HXP := Lib.hid hxp
      clear hxp
      go_wp2_with (first
        | (((with_reducible refine (sortRowL_spec HROW.out rfl (by omega) (by omega)).mono ?_); rintro e w3 ⟨rfl, l', q1, q2, q3, hk3⟩); have Q1 := Lib.hid q1; have Q2 := Lib.hid (q2.trans HXP.out); have Q3 := Lib.hid q3; have HK3 := Lib.hid hk3; clear hk3 q1 q2 q3))
      go_ret
      exact ⟨_, rfl, ⟨l', Q1.out, Q2.out, Q3.out⟩, (HK.out.trans HKW.out (fun b hb e => by omega)).trans HK3.out (fun b hb e => by have := hcs b e; omega)⟩
    · go_roundg ((cdel R k).length + 1)
      case measure => have := HGK.out; have := cdel_length HC.out; omega
      case rel =>
        refine ⟨cdel R k, xs ++ [(k, (c : Int))], rfl, HR2.out.keep (((Keep.refl (fun b => (u3 : Value).ownBlock = some b) w2).alloc _).trans HKK4.out (fun b _ e => e)) (fun e => ?_) (fun e => ?_), (List.filter_sublist).trans HSUB.out, perm_step ((HSUB.out.map _).nodup HND.out) ((cget_mem ((HSUB.out.map _).nodup HND.out)).2 HC.out) HPE.out, ?_, HK4.out⟩
        · have := hcs _ e; omega
        · have := hcs _ e; omega
        · rw [List.length_append, List.flatMap_append]
          simpa using HR4.out
theorem colL_two {w' : World} {D : PC} {v : Value} {a b : Nat} (h : ColL w' D v) (hn : (D.map (·.1)).Nodup) (hl : D.length = 2) (h1 : cget D 1 = some a) (h2 : cget D 2 = some b) : PRow w' v [(1, (a : Int)), (2, (b : Int))] := by
  obtain ⟨l', hp, hpe, hs⟩ := h
  have m1 : ((1 : Int), (a : Int)) ∈ l' := hpe.mem_iff.2 (List.mem_map.2 ⟨(1, a), (cget_mem hn).1 h1, rfl⟩)
  have m2 : ((2 : Int), (b : Int)) ∈ l' := hpe.mem_iff.2 (List.mem_map.2 ⟨(2, b), (cget_mem hn).1 h2, rfl⟩)
  have hll : l'.length = 2 := by rw [hpe.length_eq, List.length_map, hl]
  obtain ⟨x, y, rfl⟩ : ∃ x y, l' = [x, y] := by
    match l', hll with
    | [x, y], _ => exact ⟨x, y, rfl⟩
  rw [List.pairwise_cons] at hs
  have hxy := hs.1 y (by simp)
  simp only [List.mem_cons, List.not_mem_nil, or_false] at m1 m2
  rcases m1 with rfl | rfl
  · rcases m2 with h | rfl
    · cases h
    · exact hp
  · rcases m2 with rfl | h
    · exact absurd (show (2 : Int) ≤ 1 from hxy) (by decide)
    · cases h
end Go.Proofs.YtdaccgelmcmfjaaGreatDoor
end
