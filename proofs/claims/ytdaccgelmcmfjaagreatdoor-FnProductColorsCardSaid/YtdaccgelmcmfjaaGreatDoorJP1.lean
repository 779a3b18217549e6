/- combin: Card, IdxFor, SubFor and the generator, at two dimensions. -/
import Derived.Test.YtdaccgelmcmfjaaGreatDoorJQ1
import Derived.BigQuiet
import Derived.Test.YtdaccgelmcmfjaaGreatDoorJE0
import Derived.Test.YtdaccgelmcmfjaaGreatDoorDN
import Derived.Deep.MidRow
import Derived.Test.YtdaccgelmcmfjaaGreatDoorJV0
import Derived.BigRegion
import Derived.Deep.RegionLaw
set_option linter.all false
section
namespace Go.Proofs.YtdaccgelmcmfjaaGreatDoor
open Go.RowKit Go.V
def Two (w : World) (b : Nat) (x y : Int) : Prop := w.heap[b]? = some (.cells #[.int .i64 x, .int .i64 y] 3 (0, 0))
abbrev twoV (b : Nat) : Value := .slice (some ⟨b, 0, none⟩) 2 2
theorem Two.keep {w w' : World} {b : Nat} {x y : Int} {S : Nat → Prop} (h : Two w b x y) (hk : Keep S w w') (hn : ¬ S b) : Two w' b x y := hk.get h hn
theorem Two.keepF {w w' : World} {b : Nat} {x y : Int} (h : Two w b x y) (hk : Keep (fun _ => False) w w') : Two w' b x y := hk.get h (fun h => h)
theorem Two.lt {w : World} {b : Nat} {x y : Int} (h : Two w b x y) : b < w.heap.size := lt_of_get h
theorem Two.cells {w : World} {b : Nat} {x y : Int} (h : Two w b x y) : w.cell? ⟨b, 0, none⟩ = some (.int .i64 x) ∧ w.cell? ⟨b, 1, none⟩ = some (.int .i64 y) ∧ w.frozen? ⟨b, 0, none⟩ = false ∧ w.frozen? ⟨b, 1, none⟩ = false := by
  refine ⟨?_, ?_, free_of h 0, free_of h 1⟩ <;> (rw [cell_of h]; rfl)
set_option maxHeartbeats 8000000 in
set_option maxRecDepth 20000 in
theorem idxFor_spec {w : World} {s d i j n m : Nat} (hs : Two w s i j) (hd : Two w d n m) (hi : i < n) (hj : j < m) (hn : n ≤ 1000) (hm : m ≤ 1000) :
    Calls Tryz.prog 29 #[twoV s, twoV d] w fun e w' => e = .returned (.int .i64 ((i * m + j : Nat) : Int)) ∧ w = w' := by
  obtain ⟨s0, s1, _, _⟩ := hs.cells
  obtain ⟨d0, d1, _, _⟩ := hd.cells
  have hp : i * m ≤ 1000000 := Nat.le_trans (Nat.mul_le_mul (show i ≤ 1000 by omega) hm) (by decide)
  have hpe : (i : Int) * (m : Int) = ((i * m : Nat) : Int) := by simp
  have hnm : n * m ≤ 1000000 := Nat.le_trans (Nat.mul_le_mul hn hm) (by decide)
  have hnme : (m : Int) * (n : Int) = ((n * m : Nat) : Int) := by rw [Int.mul_comm]; simp
  generalize i * m = p at *
  generalize n * m = q at *
  clear hs hd
  go_enter Tryz.func29, Tryz.ntmps29
  go_wp2_with fail
  go_loop [5, 6, 7] (fun a b c => (c = .int .i64 1 ∧ a = .int .i64 0 ∧ b = .int .i64 1) ∨ (c = .int .i64 0 ∧ a = .int .i64 (j : Int) ∧ b = .int .i64 (m : Int)) ∨ (c = .int .i64 (-1) ∧ a = .int .i64 ((p + j : Nat) : Int))) (fun _ _ c => (intOf c + 1).toNat)
  case atStart => exact .inl ⟨rfl, rfl, rfl⟩
  case round =>
    rcases hrel with ⟨rfl, rfl, rfl⟩ | ⟨rfl, rfl, rfl⟩ | ⟨rfl, rfl⟩
    · go_wp2_with fail
      go_round
      case rel => exact .inr (.inl ⟨by go_num, by go_num, by go_num⟩)
      case measure => simp [intOf]
    · go_wp2_with fail
      go_round
      case rel => exact .inr (.inr ⟨by go_num, by go_num⟩)
      case measure => simp [intOf]
    · go_wp2_with fail
      go_ret
      exact ⟨rfl, rfl⟩
set_option maxHeartbeats 8000000 in
set_option maxRecDepth 20000 in
theorem card_spec {w : World} {d n m : Nat} (hd : Two w d n m) (hn : n ≤ 1000) (hm : m ≤ 1000) :
    Calls Tryz.prog 47 #[twoV d] w fun e w' => e = .returned (.int .i64 ((n * m : Nat) : Int)) ∧ w = w' := by
  obtain ⟨d0, d1, _, _⟩ := hd.cells
  have hnm : n * m ≤ 1000000 := Nat.le_trans (Nat.mul_le_mul hn hm) (by decide)
  have hnme : (n : Int) * (m : Int) = ((n * m : Nat) : Int) := by simp
  generalize n * m = q at *
  clear hd
  go_enter Tryz.func47, Tryz.ntmps47
  go_wp2_with fail
  go_loop [3, 11] (fun a c => (c = .int .i64 0 ∧ a = .int .i64 1) ∨ (c = .int .i64 1 ∧ a = .int .i64 (n : Int)) ∨ (c = .int .i64 2 ∧ a = .int .i64 (q : Int))) (fun _ c => (3 - intOf c).toNat)
  case atStart => exact .inl ⟨rfl, rfl⟩
  case round =>
    rcases hrel with ⟨rfl, rfl⟩ | ⟨rfl, rfl⟩ | ⟨rfl, rfl⟩
    · go_wp2_with fail
      go_round
      case rel => exact .inr (.inl ⟨by go_num, by go_num⟩)
      case measure => simp [intOf]
    · go_wp2_with fail
      go_round
      case rel => exact .inr (.inr ⟨by go_num, by go_num⟩)
      case measure => simp [intOf]
    · go_wp2_with fail
      go_ret
      exact ⟨rfl, rfl⟩
def Gen (w : World) (g d : Nat) (rows : Nat) (idx : Int) : Prop := w.heap[g]? = some (.cells #[twoV d, .int .i64 (rows : Int), .int .i64 idx] 185 (0, 0))
theorem Gen.keep {w w' : World} {g d rows : Nat} {idx : Int} {S : Nat → Prop} (h : Gen w g d rows idx) (hk : Keep S w w') (hn : ¬ S g) : Gen w' g d rows idx := hk.get h hn
theorem Gen.cells {w : World} {g d rows : Nat} {idx : Int} (h : Gen w g d rows idx) : w.cell? ⟨g, 0, none⟩ = some (twoV d) ∧ w.cell? ⟨g, 1, none⟩ = some (.int .i64 (rows : Int)) ∧ w.cell? ⟨g, 2, none⟩ = some (.int .i64 idx) ∧ w.frozen? ⟨g, 2, none⟩ = false := by
  refine ⟨?_, ?_, ?_, free_of h 2⟩ <;> (rw [cell_of h]; rfl)
theorem Gen.set {w : World} {g d rows : Nat} {idx : Int} (h : Gen w g d rows idx) (x : Int) : Gen (w.setCell ⟨g, 2, none⟩ (.int .i64 x)) g d rows x := by
  unfold Gen; rw [heapV_setCell h]; rfl
set_option maxHeartbeats 8000000 in
set_option maxRecDepth 20000 in
theorem newGen_spec {w : World} {d n m : Nat} (hd : Two w d n m) (hn : n ≤ 1000) (hm : m ≤ 1000) :
    Calls Tryz.prog 48 #[twoV d] w fun e w' => e = .returned (.pointer (some ⟨w.heap.size, 0, none⟩)) ∧ Gen w' w.heap.size d (n * m) (-1) ∧ Keep (fun _ => False) w w' ∧ w'.heap.size = w.heap.size + 1 := by
  go_enter Tryz.func48, Tryz.ntmps48
  go_wp2_with (first | (((with_reducible refine (card_spec hd hn hm).mono ?_); rintro e w1 ⟨rfl, rfl⟩)))
  go_ret
  exact ⟨rfl, heap_new _ _, (Keep.refl _ _).alloc _, by simp⟩
set_option maxHeartbeats 8000000 in
set_option maxRecDepth 20000 in
theorem genNext_true {w : World} {g d rows k : Nat} (h : Gen w g d rows ((k : Int) - 1)) (hk : k < rows) (hr : rows ≤ 1000000) :
    Calls Tryz.prog 49 #[.pointer (some ⟨g, 0, none⟩)] w fun e w' => e = .returned (.bool true) ∧ Gen w' g d rows (k : Int) ∧ Keep (fun b => b = g) w w' ∧ w'.heap.size = w.heap.size := by
  obtain ⟨c0, c1, c2, f2⟩ := h.cells
  have hset : ∀ n, Gen ((w.drewN n).setCell ⟨g, 2, none⟩ (.int .i64 (k : Int))) g d rows (k : Int) ∧ Keep (fun b => b = g) w ((w.drewN n).setCell ⟨g, 2, none⟩ (.int .i64 (k : Int))) ∧ ((w.drewN n).setCell ⟨g, 2, none⟩ (.int .i64 (k : Int))).heap.size = w.heap.size := fun n =>
    ⟨(h.keep ((Keep.refl (fun _ => False) w).drewN n) (fun h => h)).set _, ((Keep.refl (fun b => b = g) w).drewN n).setCell (a := ⟨g, 2, none⟩) _ (fun _ => rfl), by simp⟩
  have HS := Lib.hid hset
  clear h hset
  go_enter Tryz.func49, Tryz.ntmps49
  go_wp2_with fail
  go_quiet (fail)
  go_wp2_with fail
  go_ret
  exact ⟨rfl, HS.out _⟩
set_option maxHeartbeats 8000000 in
set_option maxRecDepth 20000 in
theorem genNext_false {w : World} {g d rows : Nat} (h : Gen w g d rows ((rows : Int) - 1)) (hr : rows ≤ 1000000) :
    Calls Tryz.prog 49 #[.pointer (some ⟨g, 0, none⟩)] w fun e w' => e = .returned (.bool false) ∧ Keep (fun b => b = g) w w' ∧ w'.heap.size = w.heap.size := by
  obtain ⟨c0, c1, c2, f2⟩ := h.cells
  have hset : ∀ n, Keep (fun b => b = g) w ((w.drewN n).setCell ⟨g, 2, none⟩ (.int .i64 (rows : Int))) ∧ ((w.drewN n).setCell ⟨g, 2, none⟩ (.int .i64 (rows : Int))).heap.size = w.heap.size := fun n =>
    ⟨((Keep.refl (fun b => b = g) w).drewN n).setCell (a := ⟨g, 2, none⟩) _ (fun _ => rfl), by simp⟩
  have HS := Lib.hid hset
  clear h hset
  go_enter Tryz.func49, Tryz.ntmps49
  go_wp2_with fail
  go_quiet (fail)
  go_wp2_with fail
  go_ret
  exact ⟨rfl, HS.out _⟩
theorem eqlTwo (b : Nat) (w : World) : (binOp .eql 22 (twoV b) (.slice none 0 0)).run Tryz.prog w = .ok (.bool false) w := by kernel_rfl
set_option maxHeartbeats 8000000 in
set_option maxRecDepth 20000 in
theorem subFor_spec {w : World} {s d i j n m : Nat} {x y : Int} (hs : Two w s x y) (hd : Two w d n m) (hsd : s ≠ d) (hi : i < n) (hj : j < m) (hn : n ≤ 1000) (hm : m ≤ 1000) :
    Calls Tryz.prog 96 #[twoV s, .int .i64 ((i * m + j : Nat) : Int), twoV d] w fun e w' => e = .returned (twoV s) ∧ Two w' s i j ∧ Keep (fun b => b = s) w w' ∧ w'.heap.size = w.heap.size := by
  obtain ⟨s0, s1, sf0, sf1⟩ := hs.cells
  obtain ⟨d0, d1, _, _⟩ := hd.cells
  have hp : i * m ≤ 1000000 := Nat.le_trans (Nat.mul_le_mul (show i ≤ 1000 by omega) hm) (by decide)
  have hdiv : (i * m + j) / m = i := by rw [Nat.mul_comm, Nat.mul_add_div (by omega), Nat.div_eq_of_lt hj]; rfl
  have hq : ((i * m + j : Nat) : Int) / (m : Int) = (i : Int) := by rw [← Int.natCast_ediv, hdiv]
  have hmm : (m : Int) / (m : Int) = 1 := Int.ediv_self (by omega)
  have hmul : (i : Int) * (m : Int) = ((i * m : Nat) : Int) := by simp
  have hsub : ((i * m + j : Nat) : Int) - ((i * m : Nat) : Int) = (j : Int) := by omega
  have h0 : ¬ ((i * m + j : Nat) : Int) < 0 := by omega
  have hlow : i * m + j ≤ 1001000 := by omega
  have hD : ∀ W, Keep (fun b => b = s) w W → W.cell? ⟨d, 0, none⟩ = some (.int .i64 (n : Int)) ∧ W.cell? ⟨d, 1, none⟩ = some (.int .i64 (m : Int)) := fun W hk => by
    have := (hd.keep hk (fun e => hsd e.symm)).cells
    exact ⟨this.1, this.2.1⟩
  have h1 : Two (w.setCell ⟨s, 0, none⟩ (.int .i64 (i : Int))) s i y := by unfold Two; rw [heapV_setCell hs]; rfl
  have hk1 : Keep (fun b => b = s) w (w.setCell ⟨s, 0, none⟩ (.int .i64 (i : Int))) := (Keep.refl _ w).setCell (a := ⟨s, 0, none⟩) _ (fun _ => rfl)
  have H1 := Lib.hid h1
  have HK1 := Lib.hid hk1
  have HD := Lib.hid hD
  have HSUB := Lib.hid hsub
  have HMUL := Lib.hid hmul
  have HQ := Lib.hid hq
  have HMM := Lib.hid hmm
  generalize hpp : i * m = p at *
  generalize hqq : p + j = q at *
  clear hpp hqq hdiv h1 hk1 hD hsub hmul hq hmm hs hd
  have hnil := eqlTwo s
  go_enter Tryz.func96, Tryz.ntmps96
  go_wp2_with fail
  go_loop [7, 8] (fun a c => (c = .int .i64 1 ∧ a = .int .i64 1) ∨ (c = .int .i64 0 ∧ a = .int .i64 (m : Int))) (fun _ c => (intOf c).toNat)
  case atStart => exact .inl ⟨rfl, rfl⟩
  case round =>
    rcases hrel with ⟨rfl, rfl⟩ | ⟨rfl, rfl⟩
    · go_wp2_with fail
      go_round
      case rel => exact .inr ⟨by go_num, by go_num⟩
      case measure => simp [intOf]
    · go_wp2_with fail
      go_loopw [1, 7, 9] (fun a b c wr => (c = .int .i64 0 ∧ a = .int .i64 (q : Int) ∧ b = .int .i64 (m : Int) ∧ wr = w) ∨ (c = .int .i64 1 ∧ a = .int .i64 (j : Int) ∧ b = .int .i64 1 ∧ wr = w.setCell ⟨s, 0, none⟩ (.int .i64 (i : Int)))) (fun a b c _ => (1 - intOf c).toNat)
      case atStart => exact .inl ⟨rfl, rfl, rfl, rfl⟩
      case round =>
        rcases hrel with ⟨rfl, rfl, rfl, rfl⟩ | ⟨rfl, rfl, rfl, rfl⟩
        · have hq := HQ.out
          have hmul := HMUL.out
          have hmm := HMM.out
          have hsub := HSUB.out
          go_wp2_with fail
          exact ⟨.inr ⟨rfl, rfl, rfl, trivial⟩, by simp [intOf]⟩
        · obtain ⟨a0, a1, af0, af1⟩ := H1.out.cells
          obtain ⟨b0, b1⟩ := HD.out _ HK1.out
          go_wp2_with fail
          go_ret
          refine ⟨rfl, ?_, HK1.out.setCell _ (fun _ => rfl), by simp⟩
          unfold Two
          rw [heapV_setCell H1.out]; rfl
set_option maxHeartbeats 8000000 in
set_option maxRecDepth 20000 in
theorem product_spec {w : World} {s d g i j n m : Nat} {x y : Int} (hg : Gen w g d (n * m) ((i * m + j : Nat) : Int)) (hs : Two w s x y) (hd : Two w d n m) (hsd : s ≠ d) (hi : i < n) (hj : j < m) (hn : n ≤ 1000) (hm : m ≤ 1000) :
    Calls Tryz.prog 50 #[.pointer (some ⟨g, 0, none⟩), twoV s] w fun e w' => e = .returned (twoV s) ∧ Two w' s i j ∧ Keep (fun b => b = s) w w' ∧ w'.heap.size = w.heap.size := by
  obtain ⟨c0, c1, c2, _⟩ := hg.cells
  have hsf := subFor_spec (hs.keepF (Keep.refl (fun _ => False) w).drew) (hd.keepF (Keep.refl (fun _ => False) w).drew) hsd hi hj hn hm
  have hkq := fun w' => fun (h : Keep (fun b => b = s) w.drew w') => ((Keep.refl (fun b => b = s) w).drew).trans h (fun _ _ e => e)
  have HSF := Lib.hid hsf
  have HKQ := Lib.hid hkq
  generalize hpp : ((i * m + j : Nat) : Int) = p at *
  clear hsf hkq hg hs hd hpp
  go_enter Tryz.func50, Tryz.ntmps50
  go_wp2_with fail
  go_region_with (((with_reducible refine (HSF.out).mono ?_); rintro e w1 ⟨rfl, q1, q2, q3⟩); have Q1 := Lib.hid q1; have Q2 := Lib.hid (HKQ.out _ q2); have Q3 := Lib.hid q3; clear q1 q2 q3)
  all_goals (go_wp2_with fail)
  all_goals go_ret
  all_goals exact ⟨by first | rfl | simp [go_sem], Q1.out, Q2.out, by have := Q3.out; simpa using this⟩
end Go.Proofs.YtdaccgelmcmfjaaGreatDoor
end
/- The builder that a product is laid into: its nodes, its edges (AddNode, NewEdge, SetEdge). -/
section
namespace Go.Proofs.YtdaccgelmcmfjaaGreatDoor
open Go.RowKit Go.V
abbrev pnA (i : Nat) (p : Int × Int) : Value := .agg #[.int .i64 (i : Int), nodeV p.1, nodeV p.2]
abbrev pnI (i : Nat) (p : Int × Int) : Value := .iface 86 (pnA i p)
def pn (P : List (Int × Int)) (p : Int × Int) : Value := pnI (P.idxOf p) p
def edgeV (P : List (Int × Int)) (l : Lnk) : Value := .iface 345 (.agg #[pn P l.1, pn P l.2])
theorem pn_one (P : List (Int × Int)) (p : Int × Int) : (pn P p).oneCell' = true := rfl
theorem edgeV_one (P : List (Int × Int)) (l : Lnk) : (edgeV P l).oneCell' = true := rfl
structure Bd (w : World) (bb lo : Nat) (P : List (Int × Int)) (nv : Value) (ns : List (Int × Int)) (ev : Value) (es : List Lnk) : Prop where
  head : w.heap[bb]? = some (.cells #[.bool false, nv, ev, .slice none 0 0] 64 (0, 0))
  nodes : w.ownsRow lo 66 1 nv ns.length (ns.map (pn P))
  edges : w.ownsRow lo 69 1 ev es.length (es.map (edgeV P))
  low : bb < lo
section
variable {w w' : World} {bb lo : Nat} {P ns : List (Int × Int)} {nv ev : Value} {es : List Lnk}
theorem Bd.keep {S : Nat → Prop} (h : Bd w bb lo P nv ns ev es) (hk : Keep S w w') (h1 : ¬ S bb) (h2 : ∀ g, nv.ownBlock = some g → ¬ S g) (h3 : ∀ g, ev.ownBlock = some g → ¬ S g) : Bd w' bb lo P nv ns ev es :=
  ⟨hk.get h.head h1, owns_keep h.nodes hk h2, owns_keep h.edges hk h3, h.low⟩
theorem Bd.keepF (h : Bd w bb lo P nv ns ev es) (hk : Keep (fun _ => False) w w') : Bd w' bb lo P nv ns ev es := h.keep hk (fun h => h) (fun _ _ h => h) (fun _ _ h => h)
theorem Bd.apart (h : Bd w bb lo P nv ns ev es) {g : Nat} (hg : nv.ownBlock = some g) : ev.ownBlock ≠ some g := owns_ne h.nodes h.edges (by decide) g hg
theorem Bd.cells (h : Bd w bb lo P nv ns ev es) : w.cell? ⟨bb, 0, none⟩ = some (.bool false) ∧ w.cell? ⟨bb, 1, none⟩ = some nv ∧ w.cell? ⟨bb, 2, none⟩ = some ev ∧ w.frozen? ⟨bb, 1, none⟩ = false ∧ w.frozen? ⟨bb, 2, none⟩ = false := by
  refine ⟨?_, ?_, ?_, free_of h.head 1, free_of h.head 2⟩ <;> (rw [cell_of h.head]; rfl)
end
theorem infoEdge' : (Tryz.prog.info? 69).map (fun i => (i.zero, i.size, i.bytes)) = some (some .nilIface, 1, 16) := by kernel_rfl
section
variable {w w1 : World} {bb lo : Nat} {P ns : List (Int × Int)} {nv ev : Value} {es : List Lnk}
theorem Bd.after (h : Bd w bb lo P nv ns ev es) {o : Obj} {v : Value} (hv : ∀ g, v.ownBlock = some g → lo ≤ g) (hk : Keep (fun b => v.ownBlock = some b) (w.alloc o) w1) : w1.heap[bb]? = some (.cells #[.bool false, nv, ev, .slice none 0 0] 64 (0, 0)) :=
  hk.get (((Keep.refl (fun _ => False) w).alloc o).get h.head (fun h => h)) (fun e => by have := hv _ e; have := h.low; omega)
theorem Bd.node (h : Bd w bb lo P nv ns ev es) (hlo : lo ≤ w.heap.size) {p : Int × Int} {o : Obj} {g cap n : Nat} (hn : ns.length = n) (h1 : w1.ownsRow 0 66 1 (.slice (some ⟨g, 0, none⟩) (n + 1) cap) (n + 1) (ns.map (pn P) ++ [pn P p]))
    (h2 : Keep (fun b => nv.ownBlock = some b) (w.alloc o) w1) (h3 : nv.ownBlock = some g ∨ g = (w.alloc o).heap.size) :
    Bd (w1.setCell ⟨bb, 1, none⟩ (.slice (some ⟨g, 0, none⟩) (n + 1) cap)) bb lo P (.slice (some ⟨g, 0, none⟩) (n + 1) cap) (ns ++ [p]) ev es ∧ Keep (fun b => b = bb ∨ nv.ownBlock = some b) w (w1.setCell ⟨bb, 1, none⟩ (.slice (some ⟨g, 0, none⟩) (n + 1) cap)) := by
  have hge : ∀ g, nv.ownBlock = some g → lo ≤ g := fun g hg => (h.nodes.lt g hg).1
  have hge2 : ∀ g, ev.ownBlock = some g → lo ≤ g := fun g hg => (h.edges.lt g hg).1
  have hlg : lo ≤ g := by
    rcases h3 with h3 | h3
    · exact hge _ h3
    · rw [h3, World.size_alloc]; omega
  have hlow := h.low
  have hk : Keep (fun b => b = bb) w1 (w1.setCell ⟨bb, 1, none⟩ (.slice (some ⟨g, 0, none⟩) (n + 1) cap)) := (Keep.refl _ w1).setCell (a := ⟨bb, 1, none⟩) _ (fun _ => rfl)
  refine ⟨⟨?_, ?_, owns_keep (owns_keep (owns_keep h.edges ((Keep.refl (fun _ => False) w).alloc o) (fun _ _ h => h)) h2 (fun g hg e => h.apart e hg)) hk (fun g hg e => by have := hge2 g hg; have e : g = bb := e; omega), hlow⟩, (((Keep.refl _ w).alloc o).trans h2 (fun _ _ e => .inr e)).setCell (a := ⟨bb, 1, none⟩) _ (fun _ => .inl rfl)⟩
  · rw [heapV_setCell (h.after hge h2)]; rfl
  · rw [show (ns ++ [p]).length = n + 1 by simp [hn], List.map_append]
    refine owns_keep (owns_lift h1 (fun g' hg' => ?_)) hk (fun g' hg' e => ?_)
    · cases hg'; exact hlg
    · cases hg'
      have e : g = bb := e
      omega
theorem Bd.edge (h : Bd w bb lo P nv ns ev es) (hlo : lo ≤ w.heap.size) {p : Lnk} {o : Obj} {g cap n : Nat} (hn : es.length = n) (h1 : w1.ownsRow 0 69 1 (.slice (some ⟨g, 0, none⟩) (n + 1) cap) (n + 1) (es.map (edgeV P) ++ [edgeV P p]))
    (h2 : Keep (fun b => ev.ownBlock = some b) (w.alloc o) w1) (h3 : ev.ownBlock = some g ∨ g = (w.alloc o).heap.size) :
    Bd (w1.setCell ⟨bb, 2, none⟩ (.slice (some ⟨g, 0, none⟩) (n + 1) cap)) bb lo P nv ns (.slice (some ⟨g, 0, none⟩) (n + 1) cap) (es ++ [p]) ∧ Keep (fun b => b = bb ∨ ev.ownBlock = some b) w (w1.setCell ⟨bb, 2, none⟩ (.slice (some ⟨g, 0, none⟩) (n + 1) cap)) := by
  have hge : ∀ g, ev.ownBlock = some g → lo ≤ g := fun g hg => (h.edges.lt g hg).1
  have hge2 : ∀ g, nv.ownBlock = some g → lo ≤ g := fun g hg => (h.nodes.lt g hg).1
  have hlg : lo ≤ g := by
    rcases h3 with h3 | h3
    · exact hge _ h3
    · rw [h3, World.size_alloc]; omega
  have hlow := h.low
  have hk : Keep (fun b => b = bb) w1 (w1.setCell ⟨bb, 2, none⟩ (.slice (some ⟨g, 0, none⟩) (n + 1) cap)) := (Keep.refl _ w1).setCell (a := ⟨bb, 2, none⟩) _ (fun _ => rfl)
  refine ⟨⟨?_, owns_keep (owns_keep (owns_keep h.nodes ((Keep.refl (fun _ => False) w).alloc o) (fun _ _ h => h)) h2 (fun g hg e => h.apart hg e)) hk (fun g hg e => by have := hge2 g hg; have e : g = bb := e; omega), ?_, hlow⟩, (((Keep.refl _ w).alloc o).trans h2 (fun _ _ e => .inr e)).setCell (a := ⟨bb, 2, none⟩) _ (fun _ => .inl rfl)⟩
  · rw [heapV_setCell (h.after hge h2)]; rfl
  · rw [show (es ++ [p]).length = n + 1 by simp [hn], List.map_append]
    refine owns_keep (owns_lift h1 (fun g' hg' => ?_)) hk (fun g' hg' e => ?_)
    · cases hg'; exact hlg
    · cases hg'
      have e : g = bb := e
      omega
end
def AddPost (w : World) (bb lo : Nat) (P ns : List (Int × Int)) (nv ev : Value) (es : List Lnk) (p : Int × Int) (e : Ending) (w' : World) : Prop :=
  e = .returned (.tuple #[]) ∧ ∃ nv', Bd w' bb lo P nv' (ns ++ [p]) ev es ∧ (nv'.ownBlock = nv.ownBlock ∨ ∃ g, nv'.ownBlock = some g ∧ w.heap.size ≤ g) ∧ Keep (fun b => b = bb ∨ nv.ownBlock = some b) w w'
set_option maxHeartbeats 8000000 in
set_option maxRecDepth 20000 in
theorem addNode_spec {w : World} {bb lo : Nat} {P ns : List (Int × Int)} {nv ev : Value} {es : List Lnk} (h : Bd w bb lo P nv ns ev es) (p : Int × Int) (hlo : lo ≤ w.heap.size) (hlen : ns.length ≤ 100000) :
    Calls Tryz.prog 252 #[.pointer (some ⟨bb, 0, none⟩), pn P p] w (AddPost w bb lo P ns nv ev es p) := by
  unfold AddPost
  obtain ⟨c0, c1, c2, f1, f2⟩ := h.cells
  have hlow := h.low
  have how := h.nodes
  obtain ⟨na, ncap, rfl⟩ := owns_slice how
  have how0 := (owns_lift (b' := 0) how (fun _ _ => Nat.zero_le _)).alloc (.cells #[pn P p] 66 (0, 0))
  have hge : ∀ g, (Value.slice na ns.length ncap).ownBlock = some g → lo ≤ g := fun g hg => (how.lt g hg).1
  obtain ⟨i0, hi0, hz0, hz1, hz2⟩ := info_parts infoNode
  have hone : ∀ x, (pn P x).oneCell' = true := pn_one P
  generalize hn : ns.length = n at *
  have HN := Lib.hid hn
  have HB := Lib.hid h
  have HO := Lib.hid how0
  have HGE := Lib.hid hge
  have HP1 := Lib.hid hone
  clear h how how0 hn hge hone
  obtain ⟨pv, hpv⟩ : ∃ x, pn P p = .iface 86 x := ⟨_, rfl⟩
  rw [hpv] at HO ⊢
  have HPV := Lib.hid hpv
  clear hpv
  go_enter Tryz.func252, Tryz.ntmps252
  go_wp2_with (first
    | (at_builtin; refine wpList_append_own' rfl rfl 66 i0 _ 1 16 Tryz.underlying61 hi0 hz0 hz1 hz2 rfl (by decide) (.slice na n ncap) n _ rfl HO.out ⟨_, 0, none⟩ 1 1 [.iface 86 pv] rfl rfl (World.news_of_block (heap_new _ _)) (by simp [Value.oneCell']) (by decide) (by unfold maxLen; omega) (by omega) ?_; intro g5 cap5 w5 q1 q2 q3 q4; have hh5 := HB.out.after HGE.out q2; have f5 := free_of hh5 1; have c5 := cell_of hh5 1; simp only [List.getElem?_toArray, List.getElem?_cons_succ, List.getElem?_cons_zero] at c5; have HQ1 := Lib.hid q1; have HQ2 := Lib.hid q2; have HQ3 := Lib.hid q3; clear q1 q2 q3 hh5))
  have hq1 := HQ1.out
  rw [← HPV.out] at hq1
  obtain ⟨r1, r2⟩ := HB.out.node hlo HN.out hq1 HQ2.out HQ3.out
  have R1 := Lib.hid r1
  have R2 := Lib.hid r2
  clear r1 r2 hq1
  go_returns
  refine ⟨rfl, _, R1.out, ?_, R2.out⟩
  rcases HQ3.out with h | h
  · exact .inl h.symm
  · exact .inr ⟨g5, rfl, by rw [h, World.size_alloc]; omega⟩
def EdgePost (w : World) (bb lo : Nat) (P ns : List (Int × Int)) (nv ev : Value) (es : List Lnk) (p : Lnk) (e : Ending) (w' : World) : Prop :=
  e = .returned (.tuple #[]) ∧ ∃ nv', Bd w' bb lo P nv ns nv' (es ++ [p]) ∧ (nv'.ownBlock = ev.ownBlock ∨ ∃ g, nv'.ownBlock = some g ∧ w.heap.size ≤ g) ∧ Keep (fun b => b = bb ∨ ev.ownBlock = some b) w w'
set_option maxHeartbeats 8000000 in
set_option maxRecDepth 20000 in
theorem setEdge_spec {w : World} {bb lo : Nat} {P ns : List (Int × Int)} {nv ev : Value} {es : List Lnk} (h : Bd w bb lo P nv ns ev es) (p : Lnk) (hlo : lo ≤ w.heap.size) (hlen : es.length ≤ 100000) :
    Calls Tryz.prog 254 #[.pointer (some ⟨bb, 0, none⟩), edgeV P p] w (EdgePost w bb lo P ns nv ev es p) := by
  unfold EdgePost
  obtain ⟨c0, c1, c2, f1, f2⟩ := h.cells
  have hlow := h.low
  have how := h.edges
  obtain ⟨na, ncap, rfl⟩ := owns_slice how
  have how0 := (owns_lift (b' := 0) how (fun _ _ => Nat.zero_le _)).alloc (.cells #[edgeV P p] 69 (0, 0))
  have hge : ∀ g, (Value.slice na es.length ncap).ownBlock = some g → lo ≤ g := fun g hg => (how.lt g hg).1
  obtain ⟨i0, hi0, hz0, hz1, hz2⟩ := info_parts infoEdge'
  have hone : ∀ x, (edgeV P x).oneCell' = true := edgeV_one P
  generalize hn : es.length = n at *
  have HN := Lib.hid hn
  have HB := Lib.hid h
  have HO := Lib.hid how0
  have HGE := Lib.hid hge
  have HP1 := Lib.hid hone
  clear h how how0 hn hge hone
  obtain ⟨pv, hpv⟩ : ∃ x, edgeV P p = .iface 345 x := ⟨_, rfl⟩
  rw [hpv] at HO ⊢
  have HPV := Lib.hid hpv
  clear hpv
  go_enter Tryz.func254, Tryz.ntmps254
  go_wp2_with (first
    | (at_builtin; refine wpList_append_own' rfl rfl 69 i0 _ 1 16 Tryz.underlying62 hi0 hz0 hz1 hz2 rfl (by decide) (.slice na n ncap) n _ rfl HO.out ⟨_, 0, none⟩ 1 1 [.iface 345 pv] rfl rfl (World.news_of_block (heap_new _ _)) (by simp [Value.oneCell']) (by decide) (by unfold maxLen; omega) (by omega) ?_; intro g5 cap5 w5 q1 q2 q3 q4; have hh5 := HB.out.after HGE.out q2; have f5 := free_of hh5 2; have c5 := cell_of hh5 2; simp only [List.getElem?_toArray, List.getElem?_cons_succ, List.getElem?_cons_zero] at c5; have HQ1 := Lib.hid q1; have HQ2 := Lib.hid q2; have HQ3 := Lib.hid q3; clear q1 q2 q3 hh5))
  have hq1 := HQ1.out
  rw [← HPV.out] at hq1
  obtain ⟨r1, r2⟩ := HB.out.edge hlo HN.out hq1 HQ2.out HQ3.out
  have R1 := Lib.hid r1
  have R2 := Lib.hid r2
  clear r1 r2 hq1
  go_returns
  refine ⟨rfl, _, R1.out, ?_, R2.out⟩
  rcases HQ3.out with h | h
  · exact .inl h.symm
  · exact .inr ⟨g5, rfl, by rw [h, World.size_alloc]; omega⟩
set_option maxRecDepth 20000 in
theorem newEdge_spec (w : World) (b : Value) (P : List (Int × Int)) (p q : Int × Int) :
    Calls Tryz.prog 253 #[b, pn P p, pn P q] w fun e w' => e = .returned (edgeV P (p, q)) ∧ w = w' := by
  obtain ⟨x, hx⟩ : ∃ x, pn P p = .iface 86 x := ⟨_, rfl⟩
  obtain ⟨y, hy⟩ : ∃ x, pn P q = .iface 86 x := ⟨_, rfl⟩
  have he : edgeV P (p, q) = .iface 345 (.agg #[.iface 86 x, .iface 86 y]) := by unfold edgeV; rw [hx, hy]
  rw [he, hx, hy]
  clear he hx hy
  go_enter Tryz.func253, Tryz.ntmps253
  go_wp2_with fail
  go_ret
  exact ⟨rfl, rfl⟩
end Go.Proofs.YtdaccgelmcmfjaaGreatDoor
end
/- The nodes of a product, as they lie in memory. -/
section
namespace Go.Proofs.YtdaccgelmcmfjaaGreatDoor
open Go.RowKit Go.V
def PAt (w : World) (gp : Nat) (A B : List Int) (k : Nat) : Prop :=
  ∃ cs, w.heap[gp]? = some (.cells cs 86 (0, 0)) ∧ cs.size = A.length * B.length * 3 ∧
    ∀ q, q < k → ∀ p, (pairsOf A B)[q]? = some p → cs[q * 3]? = some (.int .i64 (q : Int)) ∧ cs[q * 3 + 1]? = some (nodeV p.1) ∧ cs[q * 3 + 2]? = some (nodeV p.2)
theorem PAt.keep {S : Nat → Prop} {w w' : World} {gp : Nat} {A B : List Int} {k : Nat} (h : PAt w gp A B k) (hk : Keep S w w') (hn : ¬ S gp) : PAt w' gp A B k := by
  obtain ⟨cs, h1, h2⟩ := h
  exact ⟨cs, hk.get h1 hn, h2⟩
theorem PAt.lt {w : World} {gp : Nat} {A B : List Int} {k : Nat} (h : PAt w gp A B k) : gp < w.heap.size := by
  obtain ⟨cs, h1, _⟩ := h; exact lt_of_get h1
theorem PAt.cells {w : World} {gp : Nat} {A B : List Int} {k q : Nat} {p : Int × Int} (h : PAt w gp A B k) (hq : q < k) (hp : (pairsOf A B)[q]? = some p) :
    w.cell? ⟨gp, q * 3, none⟩ = some (.int .i64 (q : Int)) ∧ w.cell? ⟨gp, q * 3 + 1, none⟩ = some (nodeV p.1) ∧ w.cell? ⟨gp, q * 3 + 2, none⟩ = some (nodeV p.2) := by
  obtain ⟨cs, h1, _, h2⟩ := h
  rw [cell_of h1, cell_of h1, cell_of h1]
  exact h2 q hq p hp
theorem PAt.free {w : World} {gp : Nat} {A B : List Int} {k : Nat} (h : PAt w gp A B k) (i : Nat) : w.frozen? ⟨gp, i, none⟩ = false := by
  obtain ⟨cs, h1, _⟩ := h; exact free_of h1 i
theorem PAt.has {w : World} {gp : Nat} {A B : List Int} {k i : Nat} (h : PAt w gp A B k) (hi : i < A.length * B.length * 3) : ∃ v, w.cell? ⟨gp, i, none⟩ = some v := by
  obtain ⟨cs, h1, h2, _⟩ := h
  rw [cell_of h1]
  exact ⟨_, Array.getElem?_eq_getElem (by omega)⟩
theorem PAt.step {w : World} {gp : Nat} {A B : List Int} {k : Nat} {a b : Int} (h : PAt w gp A B k) (hp : (pairsOf A B)[k]? = some (a, b)) :
    PAt (((w.setCell ⟨gp, k * 3, none⟩ (.int .i64 (k : Int))).setCell ⟨gp, k * 3 + 1, none⟩ (nodeV a)).setCell ⟨gp, k * 3 + 2, none⟩ (nodeV b)) gp A B (k + 1) := by
  obtain ⟨cs, h1, h2, h3⟩ := h
  have hk : k < A.length * B.length := by have := (List.getElem?_eq_some_iff.1 hp).1; rwa [pairsOf_length] at this
  refine ⟨_, heapV_setCell (heapV_setCell (heapV_setCell h1 _ _) _ _) _ _, by simp [h2], fun q hq p hp' => ?_⟩
  simp only [Array.getElem?_setIfInBounds, Array.size_setIfInBounds]
  rcases Nat.lt_succ_iff_lt_or_eq.1 hq with hq | rfl
  · obtain ⟨a1, a2, a3⟩ := h3 q hq p hp'
    refine ⟨?_, ?_, ?_⟩
    · rw [if_neg (by omega), if_neg (by omega), if_neg (by omega)]; exact a1
    · rw [if_neg (by omega), if_neg (by omega), if_neg (by omega)]; exact a2
    · rw [if_neg (by omega), if_neg (by omega), if_neg (by omega)]; exact a3
  · rw [hp] at hp'; cases hp'
    have e1 : q * 3 < cs.size := by omega
    have e2 : q * 3 + 1 < cs.size := by omega
    have e3 : q * 3 + 2 < cs.size := by omega
    refine ⟨?_, ?_, ?_⟩
    · rw [if_neg (by omega), if_neg (by omega), if_pos rfl, if_pos e1]
    · rw [if_neg (by omega), if_pos rfl, if_pos e2]
    · rw [if_pos rfl, if_pos e3]
theorem infoPNode : (Tryz.prog.info? 86).map (fun i => (i.zero, i.size, i.bytes)) = some (some (.agg #[.int .i64 0, .nilIface, .nilIface]), 3, 40) := by kernel_rfl
theorem mkP (W : World) (k : Nat) (hk : k ≤ 100000) : ∃ cs : Array Value, cs.size = k * 3 ∧ (Instr.makeSlice 80 (.int .i64 (k : Int)) (.int .i64 (k : Int))).run Tryz.prog W = .ok (.slice (some ⟨W.heap.size, 0, none⟩) k k) (W.alloc (.cells cs 86 (0, 0))) := by
  obtain ⟨i, hi, hz, hsize, hby⟩ := info_parts infoPNode
  have hr := run_make (P := Tryz.prog) W 80 86 i _ Tryz.underlying80 hi hz .i64 .i64 k k (by omega) (Int.le_refl _) (by rw [hby]; omega) (by omega)
  simp only [Int.toNat_natCast] at hr
  rw [hsize] at hr
  exact ⟨_, by simp [madeCells], hr⟩
end Go.Proofs.YtdaccgelmcmfjaaGreatDoor
end
/- A drawn region whose last operation alone turns what was there: each other operation is looked at once; what an operation yields is data. -/
section
namespace Go.Proofs.YtdaccgelmcmfjaaGreatDoor
open Go.RowKit Go.V
inductive VF where
  | any
  | eq (x : Value)
  | two (x y : Int)
def VF.ok (lo : Nat) : VF → Value → World → Prop
  | .any, _, _ => True
  | .eq x, v, _ => v = x
  | .two x y, v, w => ∃ b, v = twoV b ∧ Two w b x y ∧ lo ≤ b
theorem VF.ok_keep {lo : Nat} {f : VF} {v : Value} {w w' : World} (h : f.ok lo v w) (hk : Keep (fun _ => False) w w') : f.ok lo v w' := by
  cases f with
  | any => trivial
  | eq x => exact h
  | two x y => obtain ⟨b, h1, h2, h3⟩ := h; exact ⟨b, h1, h2.keepF hk, h3⟩
theorem oD {p : Prop} [Decidable p] (h : decide p = true) : p := of_decide_eq_true h
def feeds (ops : Array Oper) (n : Nat) : Bool := (List.range n).all fun j => (List.range (n + 1)).any fun k => decide (j < k) && (depsOf ops k).contains j
section
variable {P : Program} {ops : Array Oper} {Q : Exit → Act → World → Prop}
theorem all_listed {n : Nat} (hf : feeds ops n = true) {listed : Array Bool} (hn : listed.getD n false = true) (hc : ∀ j, listed.getD j false = true → ∀ k ∈ depsOf ops j, listed.getD k false = true) :
    ∀ m j, n ≤ j + m → j ≤ n → listed.getD j false = true
  | 0, j, h1, h2 => by
    obtain rfl : j = n := by omega
    exact hn
  | m + 1, j, h1, h2 => by
    by_cases e : j = n
    · rw [e]; exact hn
    · have hf0 := hf
      unfold feeds at hf
      rw [List.all_eq_true] at hf
      have := hf j (List.mem_range.2 (by omega))
      rw [List.any_eq_true] at this
      obtain ⟨k, hk, h3⟩ := this
      have hk := List.mem_range.1 hk
      rw [Bool.and_eq_true, decide_eq_true_eq] at h3
      exact hc k (all_listed hf0 hn hc m k (by omega) (by omega)) j (by simpa using h3.2)
def OwesK (P : Program) (ops : Array Oper) (Q : Exit → Act → World → Prop) (L : List VF) (lo j : Nat) (a : Act) (w : World) : Prop :=
  wpOp P ops Q j (fun a' w' => ∃ v, a' = a.put (dstOf ops j) v ∧ (L.getD j .any).ok lo (cut ops j v) w' ∧ Keep (fun _ => False) w w') a w
theorem isDst_of {o : Oper} {i t : Nat} (ho : ops[i]? = some o) (hd : o.dst = some t) : isDst ops t = true := by
  unfold isDst
  rw [List.any_eq_true]
  exact ⟨o, Array.mem_toList_iff.2 (Array.mem_of_getElem? ho), by simp [hd]⟩
theorem putAll_at {m n j t : Nat} (h : plainR ops m = true) (f : Nat → Value) (a : Act) (hm : m ≤ a.tmps.size) (hj : j < n) (hd : dstOf ops j = some t) : (putAll ops f n a).tmps.getD t undef = f j := by
  have ht : t < a.tmps.size := Nat.lt_of_lt_of_le (plainR_dst h hd) hm
  rw [putAll_get h f a hm t ht n, if_pos ⟨j, hj, hd⟩]
  cases hh : (List.range n).find? (fun j => dstOf ops j == some t) with
  | none =>
    rw [List.find?_eq_none] at hh
    have := hh j (List.mem_range.2 hj)
    simp [hd] at this
  | some k =>
    have := List.find?_some hh
    simp only [beq_iff_eq] at this
    rw [plainR_inj h this hd]
theorem putAll_ev {m n j t : Nat} (h : plainR ops m = true) (f : Nat → Value) (a : Act) (hm : m ≤ a.tmps.size) (hj : j < n) (hd : dstOf ops j = some t) : (putAll ops f n a).eval (.tmp t) = f j := putAll_at h f a hm hj hd
theorem put_out (a : Act) (x : Option Tmp) (v : Value) (t : Nat) (h : x ≠ some t) : (a.put x v).tmps.getD t undef = a.tmps.getD t undef := by
  cases x with
  | none => rfl
  | some d =>
    have e : ¬ d = t := fun e => h (by rw [e])
    by_cases ht : t < a.tmps.size
    · simp [Act.put, e]
    · simp [Act.put, e]
theorem wp_region_K {id : Nat} {a0 : Act} {w0 : World} (hm : P.follows .mixedOrders = true) (L : List VF) (n : Nat) (hn : ops.size = n + 1)
    (hplain : plainR ops a0.tmps.size = true) (hfeed : feeds ops n = true)
    (hop : ∀ j, j < n → ∀ a w, Keep (fun _ => False) w0 w → (∀ t, isDst ops t = false → a.tmps.getD t undef = a0.tmps.getD t undef) → (∀ k ∈ depsOf ops j, (L.getD k .any).ok w0.heap.size (valAt ops a k) w) → OwesK P ops Q L w0.heap.size j a w)
    (hlast : ∀ f w, Keep (fun _ => False) w0 w → (∀ j, j < n → (L.getD j .any).ok w0.heap.size (f j) w) → wpOp P ops Q n (fun a' w' => Q .normal a' w') (putAll ops f n a0) w) : (Code.region id ops true).wp P Q a0 w0 := by
  refine wp_region_inv hm (fun listed a w => (listed.getD n false = true → Q .normal a w) ∧ (listed.getD n false = false → Keep (fun _ => False) w0 w ∧ a.defers = a0.defers ∧ a.tmps.size = a0.tmps.size ∧
    (∀ t, (∀ j, listed.getD j false = true → dstOf ops j ≠ some t) → a.tmps.getD t undef = a0.tmps.getD t undef) ∧
    (∀ j, listed.getD j false = true → (L.getD j .any).ok w0.heap.size (valAt ops a j) w)) ∧
    (∀ j, listed.getD j false = true → ∀ k ∈ depsOf ops j, listed.getD k false = true)) ?_ ?_ ?_
  · have hrep : ∀ j, (Array.replicate ops.size false).getD j false = false := fun j => by
      simp only [Array.getD_eq_getD_getElem?, Array.getElem?_replicate]; split <;> rfl
    refine ⟨fun h => ?_, fun _ => ⟨(Keep.refl _ w0).drew, rfl, rfl, fun _ _ => rfl, fun j hj => ?_⟩, fun j hj => ?_⟩
    · rw [hrep] at h; cases h
    · rw [hrep] at hj; cases hj
    · rw [hrep] at hj; cases hj
  · intro listed a w i hsz hr ⟨c1, c2, c3⟩
    have ⟨h1, h2, o, ho, hedges⟩ := ready_lt hr
    have hdeps : ∀ k ∈ depsOf ops i, listed.getD k false = true := fun k hk => by
      unfold depsOf at hk
      simp only [ho, List.mem_map, List.mem_filter] at hk
      obtain ⟨e, ⟨he, hb⟩, rfl⟩ := hk
      exact hedges e he hb
    have hset : ∀ j, (listed.setIfInBounds i true).getD j false = if j = i then true else listed.getD j false := fun j => getD_set _ _ _ _ (by omega)
    have h2' : listed.getD i false = false := by
      have : i < listed.size := by omega
      simpa [this] using h2
    cases hln : listed.getD n false with
    | true =>
      have := all_listed hfeed hln c3 n i (by omega) (by omega)
      rw [h2'] at this; cases this
    | false =>
      obtain ⟨i1, i2, i3, i4, i5⟩ := c2 hln
      have hclosed : ∀ j, (listed.setIfInBounds i true).getD j false = true → ∀ k ∈ depsOf ops j, (listed.setIfInBounds i true).getD k false = true := fun j hj k hk => by
        rw [hset] at hj ⊢
        by_cases e : j = i
        · subst e
          rw [hdeps k hk]; simp
        · rw [if_neg e] at hj
          rw [c3 j hj k hk]; simp
      by_cases ein : i = n
      · subst ein
        have hall : ∀ j, j < i → listed.getD j false = true := fun j hj => by
          have := all_listed hfeed (listed := listed.setIfInBounds i true) (by rw [hset, if_pos rfl]) hclosed i j (by omega) (by omega)
          rwa [hset, if_neg (by omega)] at this
        have hEq : a = putAll ops (valAt ops a) i a0 := by
          refine act_ext (by rw [putAll_size, i3]) (by rw [putAll_defers, i2]) fun t ht => ?_
          rw [putAll_get hplain _ _ (Nat.le_refl _) t (by omega) i]
          by_cases hx : ∃ j, j < i ∧ dstOf ops j = some t
          · rw [if_pos hx]
            obtain ⟨j, h3, h4⟩ := hx
            cases hh : (List.range i).find? (fun j => dstOf ops j == some t) with
            | none =>
              rw [List.find?_eq_none] at hh
              have := hh j (List.mem_range.2 h3)
              simp [h4] at this
            | some k =>
              have := List.find?_some hh
              simp only [beq_iff_eq] at this
              simp only [valAt, this]
          · rw [if_neg hx]
            refine i4 t fun j hj hd => hx ⟨j, ?_, hd⟩
            have hjs : j < ops.size := by
              unfold dstOf at hd
              cases hx' : ops[j]? with
              | none => simp [hx'] at hd
              | some x => exact (Array.getElem?_eq_some_iff.1 hx').1
            have hji : j ≠ i := fun e => by rw [e, h2'] at hj; cases hj
            omega
        have hl := hlast (valAt ops a) w i1 (fun j hj => i5 j (hall j hj))
        rw [← hEq] at hl
        refine wpOp_mono ?_ hl
        intro a' w' hq
        exact ⟨fun _ => hq, fun h => (by rw [hset, if_pos rfl] at h; cases h), hclosed⟩
      · refine wpOp_mono ?_ (hop i (by omega) a w i1 (fun t ht => i4 t fun j _ hd => ?_) (fun k hk => i5 k (hdeps k hk)))
        · rintro a' w' ⟨v, rfl, hv, hR⟩
          refine ⟨fun h => ?_, fun _ => ⟨i1.trans hR (fun _ _ h => h), by rw [put_defers, i2], by rw [put_size, i3], fun t ht => ?_, fun j hj => ?_⟩, hclosed⟩
          · rw [hset, if_neg (fun e => ein e.symm), hln] at h; cases h
          · have hti : dstOf ops i ≠ some t := ht i (by rw [hset]; simp)
            have hrest : a.tmps.getD t undef = a0.tmps.getD t undef := i4 t fun j hj => ht j (by rw [hset, hj]; simp)
            rw [put_out _ _ _ _ hti, hrest]
          · rw [hset] at hj
            by_cases e : j = i
            · subst e
              unfold valAt
              unfold cut at hv
              cases hd : dstOf ops j with
              | none => simpa [hd] using hv
              | some d =>
                have hlt : d < a.tmps.size := by rw [i3]; exact plainR_dst hplain hd
                simp only [put_get _ _ _ _ hlt, if_true]
                simpa [hd] using hv
            · rw [if_neg e] at hj
              have := VF.ok_keep (i5 j hj) hR
              unfold valAt at this ⊢
              cases hd : dstOf ops j with
              | none => simpa [hd] using this
              | some d =>
                have hne : dstOf ops i ≠ some d := fun hc => e (plainR_inj hplain hd hc)
                simp only [put_out _ _ _ _ hne]
                simpa [hd] using this
        · unfold dstOf at hd
          cases hx : ops[j]? with
          | none => simp [hx] at hd
          | some x =>
            simp only [hx, Option.bind_some] at hd
            have := isDst_of hx hd
            rw [ht] at this; cases this
  · intro listed a w hsz hr ⟨c1, c2, c3⟩
    have hall : ∀ m j, j < m → j < ops.size → listed.getD j false = true := by
      intro m
      induction m with
      | zero => intro j hj; omega
      | succ m ih =>
        intro j hj hlt
        by_cases hc : listed.getD j true = true
        · have hjs : j < listed.size := by omega
          simpa [hjs] using hc
        · exfalso
          have : j ∈ Region.ready .any ops listed := by
            unfold Region.ready
            rw [List.mem_filter]
            refine ⟨List.mem_range.2 hlt, ?_⟩
            have hc' : listed.getD j true = false := by simpa using hc
            rw [Bool.and_eq_true, Array.getElem?_eq_getElem hlt]
            refine ⟨by rw [hc']; rfl, ?_⟩
            simp only [Option.map_some, Option.getD_some]
            rw [Array.all_eq_true']
            intro e he
            by_cases hb : Region.binds .any e = true
            · have hlt' := plainR_back hplain (Array.getElem?_eq_getElem hlt) (Array.mem_toList_iff.2 he) hb
              have := ih e.on (by omega) (by omega)
              simp [this]
            · have hb' : Region.binds .any e = false := by simpa using hb
              simp [hb']
          rw [hr] at this; cases this
    exact c1 (hall (n + 1) n (by omega) (by omega))
section
variable {L : List VF} {lo j : Nat} {a : Act} {w : World} {o : Oper}
theorem OwesK.val (ho : ops[j]? = some o) (hg : o.guard = none) {v : Value} {w' : World} (hrun : (execOp a.eval o).run P w = .ok (.value v) w')
    (hV : (L.getD j .any).ok lo (cut ops j v) w') (hR : Keep (fun _ => False) w w') : OwesK P ops Q L lo j a w := by
  unfold OwesK wpOp
  simp only [ho, Region.wanted, hg, if_true]
  refine .inl ?_
  unfold Oper.wp
  rw [hrun]
  exact ⟨v, by simp [dstOf, ho], hV, hR⟩
theorem OwesK.call (ho : ops[j]? = some o) (hg : o.guard = none) {f : FuncId} {args : Array Value} (hrun : (execOp a.eval o).run P w = .ok (.enter f args) w)
    (hc : Calls P f args w fun e w'' => ∃ v, e = .returned v ∧ (L.getD j .any).ok lo (cut ops j v) w'' ∧ Keep (fun _ => False) w w'') : OwesK P ops Q L lo j a w := by
  unfold OwesK wpOp
  simp only [ho, Region.wanted, hg, if_true]
  refine .inl ?_
  unfold Oper.wp
  rw [hrun]
  refine hc.mono ?_
  rintro e w'' ⟨v, rfl, h1, h2⟩
  exact ⟨v, by simp [dstOf, ho], h1, h2⟩
theorem wpOp_enter (ho : ops[j]? = some o) (hg : o.guard = none) {f : FuncId} {args : Array Value} (hrun : (execOp a.eval o).run P w = .ok (.enter f args) w) {K : Act → World → Prop}
    (hc : Calls P f args w fun e w'' => ∃ v, e = .returned v ∧ K (a.put o.dst v) w'') : wpOp P ops Q j K a w := by
  unfold wpOp
  simp only [ho, Region.wanted, hg, if_true]
  refine .inl ?_
  unfold Oper.wp
  rw [hrun]
  refine hc.mono ?_
  rintro e w'' ⟨v, rfl, h1⟩
  exact h1
theorem run_v {s : Sem Value} {v : Value} {w w' : World} (h : s.run P w = .ok v w') : ((do pure (.value (← s))) : Sem Next).run P w = .ok (.value v) w' := by
  simp [Sem.run_bind, h, Sem.run]
theorem OwesK.move {x : Operand} (ho : ops[j]? = some o) (hg : o.guard = none) (hop : o.op = .move x ∨ o.op = .assign x) {v : Value} (hx : a.eval x = v) (hV : (L.getD j .any).ok lo (cut ops j v) w) : OwesK P ops Q L lo j a w :=
  .val ho hg (by unfold execOp; rcases hop with h | h <;> (rw [h]; dsimp only; rw [hx]; rfl)) hV (Keep.refl _ _)
theorem OwesK.load {t : TypeId} {x : Operand} (ho : ops[j]? = some o) (hg : o.guard = none) (hop : o.op = .load t x) {u v : Value} (hx : a.eval x = u) (hr : (Instr.loadAt t u).run P w = .ok v w) (hV : (L.getD j .any).ok lo (cut ops j v) w) : OwesK P ops Q L lo j a w :=
  .val ho hg (by unfold execOp; rw [hop]; dsimp only; rw [hx]; exact run_v hr) hV (Keep.refl _ _)
theorem OwesK.iaddr {t : TypeId} {x i : Operand} (ho : ops[j]? = some o) (hg : o.guard = none) (hop : o.op = .indexAddr t x i) {u y v : Value} (hx : a.eval x = u) (hi : a.eval i = y) (hr : (Instr.indexAt t u y).run P w = .ok v w) (hV : (L.getD j .any).ok lo (cut ops j v) w) : OwesK P ops Q L lo j a w :=
  .val ho hg (by unfold execOp; rw [hop]; dsimp only; rw [hx, hi]; exact run_v hr) hV (Keep.refl _ _)
theorem OwesK.look {t : TypeId} {x i : Operand} {b : Bool} (ho : ops[j]? = some o) (hg : o.guard = none) (hop : o.op = .lookup t x i b) {u y v : Value} (hx : a.eval x = u) (hi : a.eval i = y) (hr : (Instr.lookup t u y b).run P w = .ok v w) (hV : (L.getD j .any).ok lo (cut ops j v) w) : OwesK P ops Q L lo j a w :=
  .val ho hg (by unfold execOp; rw [hop]; dsimp only; rw [hx, hi]; exact run_v hr) hV (Keep.refl _ _)
theorem OwesK.mki {t : TypeId} {x : Operand} (ho : ops[j]? = some o) (hg : o.guard = none) (hop : o.op = .makeInterface t x) {u v : Value} (hx : a.eval x = u) (hr : (Instr.makeInterface t u).run P w = .ok v w) (hV : (L.getD j .any).ok lo (cut ops j v) w) : OwesK P ops Q L lo j a w :=
  .val ho hg (by unfold execOp; rw [hop]; dsimp only; rw [hx]; exact run_v hr) hV (Keep.refl _ _)
theorem OwesK.mkf {n : String} {x : Operand} (ho : ops[j]? = some o) (hg : o.guard = none) (hop : o.op = .makeFunc (.method n) #[x] #[]) {u : Value} (hx : a.eval x = u) (hV : (L.getD j .any).ok lo (cut ops j (.func (.method n) #[u] #[])) w) : OwesK P ops Q L lo j a w :=
  .val ho hg (v := .func (.method n) #[u] #[]) (by unfold execOp; rw [hop]; simp [hx, Instr.makeFunc, Sem.run_bind, Sem.run]) hV (Keep.refl _ _)
theorem OwesK.nilc {n : String} {x : Operand} {t : TypeId} {u : Value} (ho : ops[j]? = some o) (hg : o.guard = none) (hop : o.op = .nilCheck x) (hx : a.eval x = .func (.method n) #[.iface t u] #[]) (hna : (nilAhead (P.types.size + Made.depth) t u n).run P w = .ok (some false) w) (hV : (L.getD j .any).ok lo (cut ops j (.func (.method n) #[.iface t u] #[])) w) : OwesK P ops Q L lo j a w :=
  .val ho hg (v := .func (.method n) #[.iface t u] #[]) (by unfold execOp; rw [hop]; simp [hx, program, Sem.run_bind, Sem.run, hna, Result.andThen]) hV (Keep.refl _ _)
end
end
end Go.Proofs.YtdaccgelmcmfjaaGreatDoor
end
/- What the operations of a drawn region of the products yield: lists of two numbers, a pair's place, its node, the calls. -/
section
namespace Go.Proofs.YtdaccgelmcmfjaaGreatDoor
open Go.RowKit Go.V
section
variable {P : Program} {ops : Array Oper} {Q : Exit → Act → World → Prop} {L : List VF} {lo j : Nat} {a : Act} {w : World} {o : Oper}
theorem run_static {c : Call} {ty : TypeId} {f : FuncId} {args : Array Value} (hc : c.callee = .value (.func f)) (ha : c.args.map a.eval = args) (eg : (callFunc f args).run P w = .ok (.enter f args) w) :
    ((do let d ← resolve a.eval c ty; invoke d.target d.args) : Sem Next).run P w = .ok (.enter f args) w := by
  unfold resolve
  rw [hc]
  simp [ha, Act.eval, Deferred.ofValue, invoke, Sem.run_bind, Sem.run, eg]
theorem run_meth {c : Call} {ty : TypeId} {f : FuncId} {recv : Operand} {name : String} {r : Value} {args fargs : Array Value} (hc : c.callee = .invoke recv name) (hr : a.eval recv = r) (ha : c.args.map a.eval = args) (hm : (callMethod r name args).run P w = .ok (.enter f fargs) w) :
    ((do let d ← resolve a.eval c ty; invoke d.target d.args) : Sem Next).run P w = .ok (.enter f fargs) w := by
  unfold resolve
  rw [hc]
  have e : (#[r] ++ args).extract 1 (#[r] ++ args).size = args := by
    apply Array.ext'
    simp
  have e0 : (#[r] ++ args)[0]? = some r := by rw [Array.getElem?_append_left (Nat.zero_lt_one)]; rfl
  simp only [ha, hr, invoke, Sem.run_bind, Sem.run_pure, Result.andThen_ok, e0, e, hm]
theorem OwesK.fn {c : Call} {f : FuncId} {args : Array Value} (ho : ops[j]? = some o) (hg : o.guard = none) (hop : o.op = .call c) (hc : c.callee = .value (.func f)) (ha : c.args.map a.eval = args) (eg : (callFunc f args).run P w = .ok (.enter f args) w)
    (h : Calls P f args w fun e w'' => ∃ v, e = .returned v ∧ (L.getD j .any).ok lo (cut ops j v) w'' ∧ Keep (fun _ => False) w w'') : OwesK P ops Q L lo j a w :=
  .call ho hg (by unfold execOp; rw [hop]; exact run_static hc ha eg) h
theorem OwesK.meth {c : Call} {f : FuncId} {recv : Operand} {name : String} {r : Value} {args fargs : Array Value} (ho : ops[j]? = some o) (hg : o.guard = none) (hop : o.op = .call c) (hc : c.callee = .invoke recv name) (hr : a.eval recv = r) (ha : c.args.map a.eval = args)
    (hm : (callMethod r name args).run P w = .ok (.enter f fargs) w)
    (h : Calls P f fargs w fun e w'' => ∃ v, e = .returned v ∧ (L.getD j .any).ok lo (cut ops j v) w'' ∧ Keep (fun _ => False) w w'') : OwesK P ops Q L lo j a w :=
  .call ho hg (by unfold execOp; rw [hop]; exact run_meth hc hr ha hm) h
theorem wpOp_meth {c : Call} {f : FuncId} {recv : Operand} {name : String} {r : Value} {args fargs : Array Value} (ho : ops[j]? = some o) (hg : o.guard = none) (hop : o.op = .call c) (hc : c.callee = .invoke recv name) (hr : a.eval recv = r) (ha : c.args.map a.eval = args)
    (hm : (callMethod r name args).run P w = .ok (.enter f fargs) w) {K : Act → World → Prop}
    (h : Calls P f fargs w fun e w'' => ∃ v, e = .returned v ∧ K (a.put o.dst v) w'') : wpOp P ops Q j K a w :=
  wpOp_enter ho hg (by unfold execOp; rw [hop]; exact run_meth hc hr ha hm) h
theorem OwesK.two {t : TypeId} {x y : Operand} {m n : Int} (ho : ops[j]? = some o) (hg : o.guard = none) (hop : o.op = .buildSlice 22 2 #[(0, x), (1, y)]) (hx : a.eval x = .int .i64 m) (hy : a.eval y = .int .i64 n) (hlo : lo ≤ w.heap.size)
    (hr : (Instr.buildSlice 22 2 #[(0, .int .i64 m), (1, .int .i64 n)]).run P w = .ok (twoV w.heap.size) (w.alloc (.cells #[.int .i64 m, .int .i64 n] 3 (0, 0))))
    (hL : L.getD j .any = .two m n) (hd : (dstOf ops j).isSome = true) : OwesK P ops Q L lo j a w :=
  .val ho hg (v := twoV w.heap.size) (w' := w.alloc (.cells #[.int .i64 m, .int .i64 n] 3 (0, 0))) (by unfold execOp; rw [hop]; dsimp only; simp only [List.map_toArray, List.map_cons, List.map_nil, hx, hy]; exact run_v hr) (by
    rw [hL]; unfold cut; rw [if_pos hd]
    exact ⟨_, rfl, heap_new w _, hlo⟩) ((Keep.refl _ w).alloc _)
end
def regionOf (n : Nat) : Code → Option (Array Oper)
  | .region m ops _ => if m = n then some ops else none
  | .loop c => regionOf n c
  | .seq a b => match regionOf n a with
    | some c => some c
    | none => regionOf n b
  | .block _ c => regionOf n c
  | .scope c => regionOf n c
  | .cond _ a b => match regionOf n a with
    | some c => some c
    | none => regionOf n b
  | _ => none
theorem bs2 (x y : Int) (w : World) : (Instr.buildSlice 22 2 #[(0, .int .i64 x), (1, .int .i64 y)]).run Tryz.prog w = .ok (twoV w.heap.size) (w.alloc (.cells #[.int .i64 x, .int .i64 y] 3 (0, 0))) := by kernel_rfl
theorem iaP (gp N k : Nat) (hk : k < N) (w : World) : (Instr.indexAt 80 (.slice (some ⟨gp, 0, none⟩) N N) (.int .i64 (k : Int))).run Tryz.prog w = .ok (.pointer (some ⟨gp, k * 3, none⟩)) w := by
  rw [run_indexAt_slice _ _ _ _ _ _ _ (by kernel_rfl), if_pos ⟨by omega, by omega⟩]
  rw [show (sizeOf (Tryz.prog.elem 80)).run Tryz.prog w = .ok 3 w from by kernel_rfl]
  simp [Result.andThen, Addr.add]
  exact fun h => h.symm
theorem ldP {w : World} {gp N q : Nat} {A B : List Int} {p : Int × Int} (h : PAt w gp A B N) (hq : q < N) (hp : (pairsOf A B)[q]? = some p) : (Instr.loadAt 86 (.pointer (some ⟨gp, q * 3, none⟩))).run Tryz.prog w = .ok (pnA q p) w := by
  obtain ⟨c0, c1, c2⟩ := h.cells hq hp
  exact run_loadAt_mid w gp (q * 3) 86 [.int .i64 (q : Int), nodeV p.1, nodeV p.2] _ (fun j v hv => by
    rcases j with _ | _ | _ | j
    · cases hv; exact c0
    · cases hv; exact c1
    · cases hv; exact c2
    · simp at hv) Tryz.underlying86 rfl (by rw [show (Tryz.prog.info? 86).map (·.size) = some 3 from by kernel_rfl]; rfl)
theorem mkiP (q : Nat) (p : Int × Int) (w : World) : (Instr.makeInterface 86 (pnA q p)).run Tryz.prog w = .ok (pnI q p) w := by kernel_rfl
theorem cmSet (bb : Nat) (x : Value) (w : World) : (callMethod (.iface 60 (.pointer (some ⟨bb, 0, none⟩))) "SetEdge" #[x]).run Tryz.prog w = .ok (.enter 254 #[.pointer (some ⟨bb, 0, none⟩), x]) w := by kernel_rfl
theorem cmNew (bb : Nat) (x y : Value) (w : World) : (callMethod (.iface 60 (.pointer (some ⟨bb, 0, none⟩))) "NewEdge" #[x, y]).run Tryz.prog w = .ok (.enter 253 #[.pointer (some ⟨bb, 0, none⟩), x, y]) w := by kernel_rfl
theorem cmNode (it : Nat) (w : World) : (callMethod (.iface 284 (.pointer (some ⟨it, 0, none⟩))) "Node" #[]).run Tryz.prog w = .ok (.enter 284 #[.pointer (some ⟨it, 0, none⟩)]) w := by kernel_rfl
theorem cmID (u : Int) (w : World) : (callMethod (nodeV u) "ID" #[]).run Tryz.prog w = .ok (.enter 300 #[.int .i64 u]) w := by kernel_rfl
theorem nilB (bb : Nat) (w : World) : (nilAhead (Tryz.prog.types.size + Made.depth) 60 (.pointer (some ⟨bb, 0, none⟩)) "NewEdge").run Tryz.prog w = .ok (some false) w := by kernel_rfl
theorem nilS (bb : Nat) (w : World) : (nilAhead (Tryz.prog.types.size + Made.depth) 60 (.pointer (some ⟨bb, 0, none⟩)) "SetEdge").run Tryz.prog w = .ok (some false) w := by kernel_rfl
theorem cfIdx (x y : Value) (w : World) : (callFunc 29 #[x, y]).run Tryz.prog w = .ok (.enter 29 #[x, y]) w := by kernel_rfl
theorem cget_zip' {l : List Int} (hn : l.Nodup) {u : Int} {x : Nat} : cget l.zipIdx u = some x ↔ l[x]? = some u := by
  rw [cget_mem (by rw [List.zipIdx_map_fst]; exact hn), List.mem_zipIdx_iff_getElem?]
theorem lookI {w : World} {m : Nat} {l : List Int} (h : ColAt w m l.zipIdx) (hn : l.Nodup) {k : Nat} {u : Int} (hk : l[k]? = some u) : (Instr.lookup 83 (.map (some m)) (.int .i64 u) false).run Tryz.prog w = .ok (.int .i64 (k : Int)) w := by
  have := run_lookup_int (P := Tryz.prog) Tryz.underlying83 Tryz.underlying2 h u (zeroI w) false
  rw [this, kget_ckv, (cget_zip' hn).2 hk]
  rfl
end Go.Proofs.YtdaccgelmcmfjaaGreatDoor
end
/- The rule on drawn regions once more (written by gen_rg.py): what an operation yields may be any value with a given property. -/
section
namespace Go.Proofs.YtdaccgelmcmfjaaGreatDoor
open Go.RowKit Go.V
inductive VG where
  | any
  | eq (x : Value)
  | pr (φ : Value → Prop)
def VG.ok (lo : Nat) : VG → Value → World → Prop
  | .any, _, _ => True
  | .eq x, v, _ => v = x
  | .pr φ, v, _ => φ v
theorem VG.ok_keep {lo : Nat} {f : VG} {v : Value} {w w' : World} (h : f.ok lo v w) (hk : Keep (fun _ => False) w w') : f.ok lo v w' := by
  cases f with
  | any => trivial
  | eq x => exact h
  | pr φ => exact h
section
variable {P : Program} {ops : Array Oper} {Q : Exit → Act → World → Prop}
def OwesG (P : Program) (ops : Array Oper) (Q : Exit → Act → World → Prop) (L : List VG) (lo j : Nat) (a : Act) (w : World) : Prop :=
  wpOp P ops Q j (fun a' w' => ∃ v, a' = a.put (dstOf ops j) v ∧ (L.getD j .any).ok lo (cut ops j v) w' ∧ Keep (fun _ => False) w w') a w
section
variable {L : List VG} {lo j : Nat} {a : Act} {w : World} {o : Oper}
theorem OwesG.val (ho : ops[j]? = some o) (hg : o.guard = none) {v : Value} {w' : World} (hrun : (execOp a.eval o).run P w = .ok (.value v) w')
    (hV : (L.getD j .any).ok lo (cut ops j v) w') (hR : Keep (fun _ => False) w w') : OwesG P ops Q L lo j a w := by
  unfold OwesG wpOp
  simp only [ho, Region.wanted, hg, if_true]
  refine .inl ?_
  unfold Oper.wp
  rw [hrun]
  exact ⟨v, by simp [dstOf, ho], hV, hR⟩
theorem OwesG.call (ho : ops[j]? = some o) (hg : o.guard = none) {f : FuncId} {args : Array Value} (hrun : (execOp a.eval o).run P w = .ok (.enter f args) w)
    (hc : Calls P f args w fun e w'' => ∃ v, e = .returned v ∧ (L.getD j .any).ok lo (cut ops j v) w'' ∧ Keep (fun _ => False) w w'') : OwesG P ops Q L lo j a w := by
  unfold OwesG wpOp
  simp only [ho, Region.wanted, hg, if_true]
  refine .inl ?_
  unfold Oper.wp
  rw [hrun]
  refine hc.mono ?_
  rintro e w'' ⟨v, rfl, h1, h2⟩
  exact ⟨v, by simp [dstOf, ho], h1, h2⟩
theorem OwesG.move {x : Operand} (ho : ops[j]? = some o) (hg : o.guard = none) (hop : o.op = .move x ∨ o.op = .assign x) {v : Value} (hx : a.eval x = v) (hV : (L.getD j .any).ok lo (cut ops j v) w) : OwesG P ops Q L lo j a w :=
  .val ho hg (by unfold execOp; rcases hop with h | h <;> (rw [h]; dsimp only; rw [hx]; rfl)) hV (Keep.refl _ _)
theorem OwesG.load {t : TypeId} {x : Operand} (ho : ops[j]? = some o) (hg : o.guard = none) (hop : o.op = .load t x) {u v : Value} (hx : a.eval x = u) (hr : (Instr.loadAt t u).run P w = .ok v w) (hV : (L.getD j .any).ok lo (cut ops j v) w) : OwesG P ops Q L lo j a w :=
  .val ho hg (by unfold execOp; rw [hop]; dsimp only; rw [hx]; exact run_v hr) hV (Keep.refl _ _)
theorem OwesG.iaddr {t : TypeId} {x i : Operand} (ho : ops[j]? = some o) (hg : o.guard = none) (hop : o.op = .indexAddr t x i) {u y v : Value} (hx : a.eval x = u) (hi : a.eval i = y) (hr : (Instr.indexAt t u y).run P w = .ok v w) (hV : (L.getD j .any).ok lo (cut ops j v) w) : OwesG P ops Q L lo j a w :=
  .val ho hg (by unfold execOp; rw [hop]; dsimp only; rw [hx, hi]; exact run_v hr) hV (Keep.refl _ _)
theorem OwesG.look {t : TypeId} {x i : Operand} {b : Bool} (ho : ops[j]? = some o) (hg : o.guard = none) (hop : o.op = .lookup t x i b) {u y v : Value} (hx : a.eval x = u) (hi : a.eval i = y) (hr : (Instr.lookup t u y b).run P w = .ok v w) (hV : (L.getD j .any).ok lo (cut ops j v) w) : OwesG P ops Q L lo j a w :=
  .val ho hg (by unfold execOp; rw [hop]; dsimp only; rw [hx, hi]; exact run_v hr) hV (Keep.refl _ _)
theorem OwesG.mki {t : TypeId} {x : Operand} (ho : ops[j]? = some o) (hg : o.guard = none) (hop : o.op = .makeInterface t x) {u v : Value} (hx : a.eval x = u) (hr : (Instr.makeInterface t u).run P w = .ok v w) (hV : (L.getD j .any).ok lo (cut ops j v) w) : OwesG P ops Q L lo j a w :=
  .val ho hg (by unfold execOp; rw [hop]; dsimp only; rw [hx]; exact run_v hr) hV (Keep.refl _ _)
theorem OwesG.mkf {n : String} {x : Operand} (ho : ops[j]? = some o) (hg : o.guard = none) (hop : o.op = .makeFunc (.method n) #[x] #[]) {u : Value} (hx : a.eval x = u) (hV : (L.getD j .any).ok lo (cut ops j (.func (.method n) #[u] #[])) w) : OwesG P ops Q L lo j a w :=
  .val ho hg (v := .func (.method n) #[u] #[]) (by unfold execOp; rw [hop]; simp [hx, Instr.makeFunc, Sem.run_bind, Sem.run]) hV (Keep.refl _ _)
theorem OwesG.nilc {n : String} {x : Operand} {t : TypeId} {u : Value} (ho : ops[j]? = some o) (hg : o.guard = none) (hop : o.op = .nilCheck x) (hx : a.eval x = .func (.method n) #[.iface t u] #[]) (hna : (nilAhead (P.types.size + Made.depth) t u n).run P w = .ok (some false) w) (hV : (L.getD j .any).ok lo (cut ops j (.func (.method n) #[.iface t u] #[])) w) : OwesG P ops Q L lo j a w :=
  .val ho hg (v := .func (.method n) #[.iface t u] #[]) (by unfold execOp; rw [hop]; simp [hx, program, Sem.run_bind, Sem.run, hna, Result.andThen]) hV (Keep.refl _ _)
end
end
section
variable {P : Program} {ops : Array Oper} {Q : Exit → Act → World → Prop} {L : List VG} {lo j : Nat} {a : Act} {w : World} {o : Oper}
theorem OwesG.meth {c : Call} {f : FuncId} {recv : Operand} {name : String} {r : Value} {args fargs : Array Value} (ho : ops[j]? = some o) (hg : o.guard = none) (hop : o.op = .call c) (hc : c.callee = .invoke recv name) (hr : a.eval recv = r) (ha : c.args.map a.eval = args)
    (hm : (callMethod r name args).run P w = .ok (.enter f fargs) w)
    (h : Calls P f fargs w fun e w'' => ∃ v, e = .returned v ∧ (L.getD j .any).ok lo (cut ops j v) w'' ∧ Keep (fun _ => False) w w'') : OwesG P ops Q L lo j a w :=
  .call ho hg (by unfold execOp; rw [hop]; exact run_meth hc hr ha hm) h
end
end Go.Proofs.YtdaccgelmcmfjaaGreatDoor
end
/- The rule on drawn regions for 'x = append(x, ..)': one operation (m) turns what was there, a few that follow it only take addresses, the last one stores. -/
section
namespace Go.Proofs.YtdaccgelmcmfjaaGreatDoor
open Go.RowKit Go.V
inductive VM where
  | any
  | eq (x : Value)
  | blk (cs : Array Value) (t : TypeId)
def VM.ok : VM → Value → World → Prop
  | .any, _, _ => True
  | .eq x, v, _ => v = x
  | .blk cs t, v, w => ∃ b, v = .slice (some ⟨b, 0, none⟩) 1 1 ∧ w.heap[b]? = some (.cells cs t (0, 0))
def VM.okV : VM → Value → Prop
  | .eq x, v => v = x
  | _, _ => True
theorem VM.ok_keep {f : VM} {v : Value} {w w' : World} (h : f.ok v w) (hk : Keep (fun _ => False) w w') : f.ok v w' := by
  cases f with
  | any => trivial
  | eq x => exact h
  | blk cs t => obtain ⟨b, h1, h2⟩ := h; exact ⟨b, h1, hk.get h2 (fun h => h)⟩
section
variable {P : Program} {ops : Array Oper} {Q : Exit → Act → World → Prop}
def OwesM (P : Program) (ops : Array Oper) (Q : Exit → Act → World → Prop) (L : List VM) (j : Nat) (a : Act) (w : World) : Prop :=
  wpOp P ops Q j (fun a' w' => ∃ v, a' = a.put (dstOf ops j) v ∧ (L.getD j .any).ok (cut ops j v) w' ∧ Keep (fun _ => False) w w') a w
theorem valAt_put_other {i j m : Nat} {a : Act} {v : Value} (hplain : plainR ops m = true) (e : j ≠ i) : valAt ops (a.put (dstOf ops i) v) j = valAt ops a j := by
  unfold valAt
  cases hd : dstOf ops j with
  | none => rfl
  | some d =>
    have hne : dstOf ops i ≠ some d := fun hc => e (plainR_inj hplain hd hc)
    simp only [put_out _ _ _ _ hne]
theorem valAt_cut {i m : Nat} {a : Act} {v : Value} (hplain : plainR ops m = true) (hm : m ≤ a.tmps.size) : valAt ops (a.put (dstOf ops i) v) i = cut ops i v := by
  unfold valAt cut
  cases hd : dstOf ops i with
  | none => rfl
  | some d =>
    have hlt : d < a.tmps.size := Nat.lt_of_lt_of_le (plainR_dst hplain hd) hm
    simp only [put_get _ _ _ _ hlt, if_true]
    rfl
theorem wp_region_M {id : Nat} {a0 : Act} {w0 : World} (hm : P.follows .mixedOrders = true) (L : List VM) (m n : Nat) (hmn : m < n) (hn : ops.size = n + 1) (M : Value → World → Prop)
    (hplain : plainR ops a0.tmps.size = true) (hfeed : feeds ops n = true) (hfeedm : feeds ops m = true)
    (hop : ∀ j, j < m → ∀ a w, Keep (fun _ => False) w0 w → (∀ t, isDst ops t = false → a.tmps.getD t undef = a0.tmps.getD t undef) → (∀ k ∈ depsOf ops j, (L.getD k .any).ok (valAt ops a k) w) → OwesM P ops Q L j a w)
    (htail : ∀ j, m < j → j < n → ∀ a w, (∀ t, isDst ops t = false → a.tmps.getD t undef = a0.tmps.getD t undef) → wpOp P ops Q j (fun a' w' => ∃ v, a' = a.put (dstOf ops j) v ∧ (L.getD j .any).okV (cut ops j v) ∧ w' = w) a w)
    (hmain : ∀ a w, Keep (fun _ => False) w0 w → (∀ t, isDst ops t = false → a.tmps.getD t undef = a0.tmps.getD t undef) → (∀ k ∈ depsOf ops m, (L.getD k .any).ok (valAt ops a k) w) → wpOp P ops Q m (fun a' w' => ∃ v, a' = a.put (dstOf ops m) v ∧ M (cut ops m v) w') a w)
    (hlast : ∀ f w, M (f m) w → (∀ j, m < j → j < n → (L.getD j .any).okV (f j)) → wpOp P ops Q n (fun a' w' => Q .normal a' w') (putAll ops f n a0) w) : (Code.region id ops true).wp P Q a0 w0 := by
  refine wp_region_inv hm (fun listed a w => (listed.getD n false = true → Q .normal a w) ∧ (listed.getD n false = false → a.defers = a0.defers ∧ a.tmps.size = a0.tmps.size ∧
    (∀ t, (∀ j, listed.getD j false = true → dstOf ops j ≠ some t) → a.tmps.getD t undef = a0.tmps.getD t undef) ∧
    (listed.getD m false = false → Keep (fun _ => False) w0 w ∧ ∀ j, j < m → listed.getD j false = true → (L.getD j .any).ok (valAt ops a j) w) ∧
    (listed.getD m false = true → M (valAt ops a m) w) ∧
    (∀ j, m < j → j < n → listed.getD j false = true → (L.getD j .any).okV (valAt ops a j))) ∧
    (∀ j, listed.getD j false = true → ∀ k ∈ depsOf ops j, listed.getD k false = true)) ?_ ?_ ?_
  · have hrep : ∀ j, (Array.replicate ops.size false).getD j false = false := fun j => by
      simp only [Array.getD_eq_getD_getElem?, Array.getElem?_replicate]; split <;> rfl
    refine ⟨fun h => ?_, fun _ => ⟨rfl, rfl, fun _ _ => rfl, fun _ => ⟨(Keep.refl _ w0).drew, fun j _ hj => ?_⟩, fun hj => ?_, fun j _ _ hj => ?_⟩, fun j hj => ?_⟩
    · rw [hrep] at h; cases h
    · rw [hrep] at hj; cases hj
    · rw [hrep] at hj; cases hj
    · rw [hrep] at hj; cases hj
    · rw [hrep] at hj; cases hj
  · intro listed a w i hsz hr ⟨c1, c2, c3⟩
    have ⟨h1, h2, o, ho, hedges⟩ := ready_lt hr
    have hdeps : ∀ k ∈ depsOf ops i, listed.getD k false = true := fun k hk => by
      unfold depsOf at hk
      simp only [ho, List.mem_map, List.mem_filter] at hk
      obtain ⟨e, ⟨he, hb⟩, rfl⟩ := hk
      exact hedges e he hb
    have hset : ∀ j, (listed.setIfInBounds i true).getD j false = if j = i then true else listed.getD j false := fun j => getD_set _ _ _ _ (by omega)
    have h2' : listed.getD i false = false := by
      have : i < listed.size := by omega
      simpa [this] using h2
    have hdl : ∀ k ∈ depsOf ops i, k < i := fun k hk => by
      unfold depsOf at hk
      simp only [ho, List.mem_map, List.mem_filter] at hk
      obtain ⟨e, ⟨he, hb⟩, rfl⟩ := hk
      exact plainR_back hplain ho he hb
    cases hln : listed.getD n false with
    | true =>
      have := all_listed hfeed hln c3 n i (by omega) (by omega)
      rw [h2'] at this; cases this
    | false =>
      obtain ⟨i2, i3, i4, i5, i6, i7⟩ := c2 hln
      have hclosed : ∀ j, (listed.setIfInBounds i true).getD j false = true → ∀ k ∈ depsOf ops j, (listed.setIfInBounds i true).getD k false = true := fun j hj k hk => by
        rw [hset] at hj ⊢
        by_cases e : j = i
        · subst e
          rw [hdeps k hk]; simp
        · rw [if_neg e] at hj
          rw [c3 j hj k hk]; simp
      have hframe : ∀ t, isDst ops t = false → a.tmps.getD t undef = a0.tmps.getD t undef := fun t ht => i4 t fun j _ hd => by
        unfold dstOf at hd
        cases hx : ops[j]? with
        | none => simp [hx] at hd
        | some x =>
          simp only [hx, Option.bind_some] at hd
          have := isDst_of hx hd
          rw [ht] at this; cases this
      have hframe' : ∀ v t, (∀ j, (listed.setIfInBounds i true).getD j false = true → dstOf ops j ≠ some t) → (a.put (dstOf ops i) v).tmps.getD t undef = a0.tmps.getD t undef := fun v t ht => by
        have hti : dstOf ops i ≠ some t := ht i (by rw [hset]; simp)
        have hrest : a.tmps.getD t undef = a0.tmps.getD t undef := i4 t fun j hj => ht j (by rw [hset, hj]; simp)
        rw [put_out _ _ _ _ hti, hrest]
      have hsza : a0.tmps.size ≤ a.tmps.size := by omega
      by_cases ein : i = n
      · subst ein
        have hall : ∀ j, j < i → listed.getD j false = true := fun j hj => by
          have := all_listed hfeed (listed := listed.setIfInBounds i true) (by rw [hset, if_pos rfl]) hclosed i j (by omega) (by omega)
          rwa [hset, if_neg (by omega)] at this
        have hEq : a = putAll ops (valAt ops a) i a0 := by
          refine act_ext (by rw [putAll_size, i3]) (by rw [putAll_defers, i2]) fun t ht => ?_
          rw [putAll_get hplain _ _ (Nat.le_refl _) t (by omega) i]
          by_cases hx : ∃ j, j < i ∧ dstOf ops j = some t
          · rw [if_pos hx]
            obtain ⟨j, h3, h4⟩ := hx
            cases hh : (List.range i).find? (fun j => dstOf ops j == some t) with
            | none =>
              rw [List.find?_eq_none] at hh
              have := hh j (List.mem_range.2 h3)
              simp [h4] at this
            | some k =>
              have := List.find?_some hh
              simp only [beq_iff_eq] at this
              simp only [valAt, this]
          · rw [if_neg hx]
            refine i4 t fun j hj hd => hx ⟨j, ?_, hd⟩
            have hjs : j < ops.size := by
              unfold dstOf at hd
              cases hx' : ops[j]? with
              | none => simp [hx'] at hd
              | some x => exact (Array.getElem?_eq_some_iff.1 hx').1
            have hji : j ≠ i := fun e => by rw [e, h2'] at hj; cases hj
            omega
        have hl := hlast (valAt ops a) w (i6 (hall m hmn)) (fun j hj hj' => i7 j hj hj' (hall j hj'))
        rw [← hEq] at hl
        refine wpOp_mono ?_ hl
        intro a' w' hq
        exact ⟨fun _ => hq, fun h => (by rw [hset, if_pos rfl] at h; cases h), hclosed⟩
      · have hlnn : ∀ {X : Prop}, (listed.setIfInBounds i true).getD n false = true → X := fun h => by
          rw [hset, if_neg (fun e => ein e.symm), hln] at h; cases h
        by_cases eim : i = m
        · subst eim
          obtain ⟨k1, k2⟩ := i5 h2'
          refine wpOp_mono ?_ (hmain a w k1 hframe (fun k hk => k2 k (hdl k hk) (hdeps k hk)))
          rintro a' w' ⟨v, rfl, hv⟩
          refine ⟨fun h => hlnn h, fun _ => ⟨by rw [put_defers, i2], by rw [put_size, i3], hframe' v, fun h => ?_, fun _ => ?_, fun j hj hj' hl => ?_⟩, hclosed⟩
          · rw [hset, if_pos rfl] at h; cases h
          · rw [valAt_cut hplain hsza]; exact hv
          · rw [hset, if_neg (by omega)] at hl
            rw [valAt_put_other hplain (by omega)]; exact i7 j hj hj' hl
        · by_cases him : i < m
          · have hlm : listed.getD m false = false := by
              cases hlm : listed.getD m false with
              | false => rfl
              | true =>
                have := all_listed hfeedm hlm c3 m i (by omega) (by omega)
                rw [h2'] at this; cases this
            obtain ⟨k1, k2⟩ := i5 hlm
            refine wpOp_mono ?_ (hop i him a w k1 hframe (fun k hk => k2 k (by have := hdl k hk; omega) (hdeps k hk)))
            rintro a' w' ⟨v, rfl, hv, hR⟩
            refine ⟨fun h => hlnn h, fun _ => ⟨by rw [put_defers, i2], by rw [put_size, i3], hframe' v, fun _ => ⟨k1.trans hR (fun _ _ h => h), fun j hj hl => ?_⟩, fun h => ?_, fun j hj hj' hl => ?_⟩, hclosed⟩
            · rw [hset] at hl
              by_cases e : j = i
              · subst e
                rw [valAt_cut hplain hsza]; exact hv
              · rw [if_neg e] at hl
                rw [valAt_put_other hplain e]; exact VM.ok_keep (k2 j hj hl) hR
            · rw [hset, if_neg (by omega), hlm] at h; cases h
            · rw [hset, if_neg (by omega)] at hl
              rw [valAt_put_other hplain (by omega)]; exact i7 j hj hj' hl
          · refine wpOp_mono ?_ (htail i (by omega) (by omega) a w hframe)
            rintro a' w' ⟨v, rfl, hv, rfl⟩
            refine ⟨fun h => hlnn h, fun _ => ⟨by rw [put_defers, i2], by rw [put_size, i3], hframe' v, fun h => ?_, fun h => ?_, fun j hj hj' hl => ?_⟩, hclosed⟩
            · rw [hset, if_neg (fun e => eim e.symm)] at h
              obtain ⟨k1, k2⟩ := i5 h
              refine ⟨k1, fun j hj hl => ?_⟩
              rw [hset, if_neg (by omega)] at hl
              rw [valAt_put_other hplain (by omega)]; exact k2 j hj hl
            · rw [hset, if_neg (fun e => eim e.symm)] at h
              rw [valAt_put_other hplain (fun e => eim e.symm)]; exact i6 h
            · rw [hset] at hl
              by_cases e : j = i
              · subst e
                rw [valAt_cut hplain hsza]; exact hv
              · rw [if_neg e] at hl
                rw [valAt_put_other hplain e]; exact i7 j hj hj' hl
  · intro listed a w hsz hr ⟨c1, c2, c3⟩
    have hall : ∀ m j, j < m → j < ops.size → listed.getD j false = true := by
      intro m
      induction m with
      | zero => intro j hj; omega
      | succ m ih =>
        intro j hj hlt
        by_cases hc : listed.getD j true = true
        · have hjs : j < listed.size := by omega
          simpa [hjs] using hc
        · exfalso
          have : j ∈ Region.ready .any ops listed := by
            unfold Region.ready
            rw [List.mem_filter]
            refine ⟨List.mem_range.2 hlt, ?_⟩
            have hc' : listed.getD j true = false := by simpa using hc
            rw [Bool.and_eq_true, Array.getElem?_eq_getElem hlt]
            refine ⟨by rw [hc']; rfl, ?_⟩
            simp only [Option.map_some, Option.getD_some]
            rw [Array.all_eq_true']
            intro e he
            by_cases hb : Region.binds .any e = true
            · have hlt' := plainR_back hplain (Array.getElem?_eq_getElem hlt) (Array.mem_toList_iff.2 he) hb
              have := ih e.on (by omega) (by omega)
              simp [this]
            · have hb' : Region.binds .any e = false := by simpa using hb
              simp [hb']
          rw [hr] at this; cases this
    exact c1 (hall (n + 1) n (by omega) (by omega))
end
end Go.Proofs.YtdaccgelmcmfjaaGreatDoor
end
/- impl.pairOf: the pair that a node of a product stands for. -/
section
namespace Go.Proofs.YtdaccgelmcmfjaaGreatDoor
open Go.RowKit Go.V
theorem taP (k : Nat) (p : Int × Int) (w : World) : (Instr.typeAssert (pnI k p) 66 86 false).run Tryz.prog w = .ok (pnA k p) w := by kernel_rfl
set_option maxHeartbeats 8000000 in
set_option maxRecDepth 20000 in
theorem pairOf_spec (k : Nat) (p : Int × Int) (w : World) :
    Calls Tryz.prog 21 #[pnI k p] w fun e w' => e = .returned (.agg #[.int .i64 p.1, .int .i64 p.2]) ∧ Keep (fun _ => False) w w' := by
  have hta := taP k p
  go_enter Tryz.func21, Tryz.ntmps21
  go_wp2_with fail
  go_region_with (((with_reducible refine (number_spec _ _).mono ?_); rintro e w1 ⟨rfl, rfl⟩))
  all_goals (go_wp2_with fail)
  all_goals
    refine bodyPost_ret (by simp [results, Tryz.results21, go_sem]; try rfl) rfl ?_
    exact ⟨rfl, (((Keep.refl (fun _ => False) w).alloc _).alloc _).drew⟩
end Go.Proofs.YtdaccgelmcmfjaaGreatDoor
end
/- What lies in memory while the edges of a product are laid. -/
section
namespace Go.V
theorem flat_step {α β : Type} {f : α → List β} {l : List α} {i : Nat} {a : α} (h : l[i]? = some a) : (l.take (i + 1)).flatMap f = (l.take i).flatMap f ++ f a := by
  rw [List.take_add_one, h, List.flatMap_append]
  simp
theorem map_step {α β : Type} {f : α → β} {l : List α} {i : Nat} {a : α} (h : l[i]? = some a) : (l.take (i + 1)).map f = (l.take i).map f ++ [f a] := by
  rw [List.take_add_one, h, List.map_append]
  simp
theorem place_of {A B : List Int} (hA : A.Nodup) (hB : B.Nodup) {i j : Nat} {a b : Int} (ha : A[i]? = some a) (hb : B[j]? = some b) :
    ∃ q, i * B.length + j = q ∧ q < A.length * B.length ∧ (pairsOf A B)[q]? = some (a, b) ∧ (pairsOf A B).idxOf (a, b) = q := by
  have h := pairsOf_get A B i j a b ha hb
  refine ⟨_, rfl, ?_, h, pairsOf_idx hA hB ha hb⟩
  have := (List.getElem?_eq_some_iff.1 h).1
  rwa [pairsOf_length] at this
end Go.V
namespace Go.Proofs.YtdaccgelmcmfjaaGreatDoor
open Go.RowKit Go.V
structure PS (wb : World) (evb : Value) (wr : World) (bb s : Nat) (P : List (Int × Int)) (nv ev : Value) (es : List Lnk) : Prop where
  bd : Bd wr bb (bb + 1) P nv P ev es
  keep : Keep (fun b => b = bb ∨ b = s ∨ evb.ownBlock = some b) wb wr
  own : ∀ g, ev.ownBlock = some g → evb.ownBlock = some g ∨ wb.heap.size ≤ g
  blt : bb < wb.heap.size
  slt : s < wb.heap.size
  evs : ∀ g, ev.ownBlock = some g → g ≠ s
  tw : s ≠ bb → ∃ x y, Two wr s x y
  nold : ∀ g, nv.ownBlock = some g → g < wb.heap.size ∧ g ≠ bb ∧ g ≠ s ∧ evb.ownBlock ≠ some g
section
variable {wb wr wx : World} {evb ev nv : Value} {bb s : Nat} {P : List (Int × Int)} {es : List Lnk}
theorem PS.keepS {S : Nat → Prop} (h : PS wb evb wr bb s P nv ev es) (hk : Keep S wr wx) (hS : ∀ b, S b → wb.heap.size ≤ b ∧ ev.ownBlock ≠ some b) : PS wb evb wx bb s P nv ev es :=
  ⟨h.bd.keep hk (fun e => by have := (hS _ e).1; have := h.blt; omega) (fun g hg e => by have := (hS _ e).1; have := (h.nold g hg).1; omega) (fun g hg e => (hS g e).2 hg),
    h.keep.trans hk (fun b hb e => by have := (hS _ e).1; omega), h.own, h.blt, h.slt, h.evs, fun hs => (by obtain ⟨x, y, h2⟩ := h.tw hs; exact ⟨x, y, h2.keep hk (fun e => by have := (hS _ e).1; have := h.slt; omega)⟩), h.nold⟩
theorem PS.keepF (h : PS wb evb wr bb s P nv ev es) (hk : Keep (fun _ => False) wr wx) : PS wb evb wx bb s P nv ev es := h.keepS hk (fun _ h => h.elim)
theorem PS.bbw (h : PS wb evb wr bb s P nv ev es) : bb + 1 ≤ wr.heap.size := by have := h.blt; have := h.keep.size; omega
theorem PS.evw (h : PS wb evb wr bb s P nv ev es) (g : Nat) (hg : ev.ownBlock = some g) : bb + 1 ≤ g ∧ g < wr.heap.size := h.bd.edges.lt g hg
theorem PS.edge {e : Lnk} {ev' : Value} (h : PS wb evb wr bb s P nv ev es) (h1 : Bd wx bb (bb + 1) P nv P ev' (es ++ [e])) (h2 : ev'.ownBlock = ev.ownBlock ∨ ∃ g, ev'.ownBlock = some g ∧ wr.heap.size ≤ g) (h3 : Keep (fun b => b = bb ∨ ev.ownBlock = some b) wr wx) :
    PS wb evb wx bb s P nv ev' (es ++ [e]) := by
  refine ⟨h1, h.keep.trans h3 (fun b hb e => ?_), fun g hg => ?_, h.blt, h.slt, fun g hg => ?_, fun hs => ?_, h.nold⟩
  · rcases e with e | e
    · exact .inl e
    · rcases h.own b e with e | e
      · exact .inr (.inr e)
      · omega
  · rcases h2 with h2 | ⟨g', h2, h4⟩
    · rw [h2] at hg; exact h.own g hg
    · rw [h2] at hg; cases hg
      exact .inr (Nat.le_trans h.keep.size h4)
  · rcases h2 with h2 | ⟨g', h2, h4⟩
    · rw [h2] at hg; exact h.evs g hg
    · rw [h2] at hg; cases hg
      have := h.slt; have := h.keep.size; omega
  · obtain ⟨x, y, h4⟩ := h.tw hs
    exact ⟨x, y, h4.keep h3 (fun e => by rcases e with e | e; exact hs e; exact h.evs _ e rfl)⟩
theorem PS.rebase (h : PS wb evb wr bb s P nv ev es) : PS wr ev wr bb s P nv ev es :=
  ⟨h.bd, Keep.refl _ _, fun g hg => .inl hg, h.bbw, Nat.lt_of_lt_of_le h.slt h.keep.size, h.evs, h.tw, fun g hg => ⟨Nat.lt_of_lt_of_le (h.nold g hg).1 h.keep.size, (h.nold g hg).2.1, (h.nold g hg).2.2.1, fun e => h.bd.apart hg e⟩⟩
theorem PS.trans {ev' : Value} {es' : List Lnk} (h : PS wb evb wr bb s P nv ev es) (h' : PS wr ev wx bb s P nv ev' es') : PS wb evb wx bb s P nv ev' es' := by
  refine ⟨h'.bd, h.keep.trans h'.keep (fun b hb e => ?_), fun g hg => ?_, h.blt, h.slt, h'.evs, h'.tw, h.nold⟩
  · rcases e with e | e | e
    · exact .inl e
    · exact .inr (.inl e)
    · rcases h.own b e with e | e
      · exact .inr (.inr e)
      · omega
  · rcases h'.own g hg with e | e
    · exact h.own g e
    · exact .inr (Nat.le_trans h.keep.size e)
end
structure PI (wb : World) (evb : Value) (wr : World) (bb s : Nat) (P : List (Int × Int)) (nv ev : Value) (es : List Lnk) (it g : Nat) (l : List Int) (t : Nat) : Prop where
  ps : PS wb evb wr bb s P nv ev es
  iter : Iter wr it g (l.map nodeV) t
  ne : ∀ b, ev.ownBlock = some b → b ≠ it ∧ b ≠ g
  i1 : wb.heap.size ≤ it
  i2 : wb.heap.size ≤ g
section
variable {wb wr wx : World} {evb ev nv tv : Value} {bb s it g t : Nat} {P : List (Int × Int)} {es : List Lnk} {l : List Int}
theorem PI.start (h : PS wb evb wr bb s P nv ev es) (hf : FromAt wr wx tv l) : ∃ it g, tv = .iface 284 (.pointer (some ⟨it, 0, none⟩)) ∧ PI wb evb wx bb s P nv ev es it g l 0 := by
  obtain ⟨it, g, rfl, h1, h2, h3, h4⟩ := hf
  refine ⟨it, g, rfl, h.keepF h4, h1, fun b hb => ?_, Nat.le_trans h.keep.size h2, Nat.le_trans h.keep.size h3⟩
  have := (h.evw b hb).2
  omega
theorem PI.keepF (h : PI wb evb wr bb s P nv ev es it g l t) (hk : Keep (fun _ => False) wr wx) : PI wb evb wx bb s P nv ev es it g l t :=
  ⟨h.ps.keepF hk, h.iter.keep hk (fun h => h) (fun h => h), h.ne, h.i1, h.i2⟩
theorem PI.next (h : PI wb evb wr bb s P nv ev es it g l t) (h1 : Iter wx it g (l.map nodeV) (t + 1)) (hk : Keep (fun b => b = it) wr wx) : PI wb evb wx bb s P nv ev es it g l (t + 1) :=
  ⟨h.ps.keepS hk (fun b e => by rw [e]; exact ⟨h.i1, fun e' => (h.ne _ e').1 rfl⟩), h1, h.ne, h.i1, h.i2⟩
theorem PI.done (h : PI wb evb wr bb s P nv ev es it g l t) (hk : Keep (fun b => b = it) wr wx) : PS wb evb wx bb s P nv ev es :=
  h.ps.keepS hk (fun b e => by rw [e]; exact ⟨h.i1, fun e' => (h.ne _ e').1 rfl⟩)
theorem PI.edge {e : Lnk} {ev' : Value} (h : PI wb evb wr bb s P nv ev es it g l t) (h1 : Bd wx bb (bb + 1) P nv P ev' (es ++ [e])) (h2 : ev'.ownBlock = ev.ownBlock ∨ ∃ g, ev'.ownBlock = some g ∧ wr.heap.size ≤ g) (h3 : Keep (fun b => b = bb ∨ ev.ownBlock = some b) wr wx) :
    PI wb evb wx bb s P nv ev' (es ++ [e]) it g l t := by
  have hb := h.ps.blt
  have a1 := h.i1
  have a2 := h.i2
  have a3 := h.iter.lt
  have a4 := h.iter.lt'
  refine ⟨h.ps.edge h1 h2 h3, h.iter.keep h3 (fun e => ?_) (fun e => ?_), fun b hb => ?_, h.i1, h.i2⟩
  · rcases e with e | e
    · omega
    · exact (h.ne _ e).1 rfl
  · rcases e with e | e
    · omega
    · exact (h.ne _ e).2 rfl
  · rcases h2 with h2 | ⟨g', h2, h4⟩
    · rw [h2] at hb; exact h.ne b hb
    · rw [h2] at hb; cases hb; omega
theorem PI.trans {ev' : Value} {es' : List Lnk} (h : PI wb evb wr bb s P nv ev es it g l t) (h' : PS wr ev wx bb s P nv ev' es') : PI wb evb wx bb s P nv ev' es' it g l t := by
  have hb := h.ps.blt
  have hs := h.ps.slt
  have a1 := h.i1
  have a2 := h.i2
  have a3 := h.iter.lt
  have a4 := h.iter.lt'
  refine ⟨h.ps.trans h', h.iter.keep h'.keep (fun e => ?_) (fun e => ?_), fun b hb => ?_, h.i1, h.i2⟩
  · rcases e with e | e | e
    · omega
    · omega
    · exact (h.ne _ e).1 rfl
  · rcases e with e | e | e
    · omega
    · omega
    · exact (h.ne _ e).2 rfl
  · rcases h'.own b hb with e | e
    · exact h.ne b e
    · omega
end
structure PGn (wb : World) (evb : Value) (wr : World) (bb s : Nat) (P : List (Int × Int)) (nv ev : Value) (es : List Lnk) (g d n k : Nat) : Prop where
  ps : PS wb evb wr bb s P nv ev es
  gen : Gen wr g d (n * n) ((k : Int) - 1)
  two : Two wr d (n : Int) (n : Int)
  ne : ∀ b, ev.ownBlock = some b → b ≠ d ∧ b ≠ g
  i1 : wb.heap.size ≤ d
  i2 : wb.heap.size ≤ g
  dg : d ≠ g
section
variable {wb wr wx : World} {evb ev nv : Value} {bb s d g n k : Nat} {P : List (Int × Int)} {es : List Lnk}
theorem PGn.next (h : PGn wb evb wr bb s P nv ev es g d n k) (hg : Gen wx g d (n * n) (k : Int)) (hk : Keep (fun b => b = g) wr wx) : PGn wb evb wx bb s P nv ev es g d n (k + 1) :=
  ⟨h.ps.keepS hk (fun b e => by rw [e]; exact ⟨h.i2, fun e' => (h.ne _ e').2 rfl⟩), by rw [show ((k + 1 : Nat) : Int) - 1 = (k : Int) by omega]; exact hg, h.two.keep hk h.dg, h.ne, h.i1, h.i2, h.dg⟩
theorem PGn.done (h : PGn wb evb wr bb s P nv ev es g d n k) (hk : Keep (fun b => b = g) wr wx) : PS wb evb wx bb s P nv ev es :=
  h.ps.keepS hk (fun b e => by rw [e]; exact ⟨h.i2, fun e' => (h.ne _ e').2 rfl⟩)
theorem PGn.edge {e : Lnk} {ev' : Value} (h : PGn wb evb wr bb s P nv ev es g d n k) (h1 : Bd wx bb (bb + 1) P nv P ev' (es ++ [e])) (h2 : ev'.ownBlock = ev.ownBlock ∨ ∃ g, ev'.ownBlock = some g ∧ wr.heap.size ≤ g) (h3 : Keep (fun b => b = bb ∨ ev.ownBlock = some b) wr wx) :
    PGn wb evb wx bb s P nv ev' (es ++ [e]) g d n k := by
  have hb := h.ps.blt
  have a1 := h.i1
  have a2 := h.i2
  have a3 : g < wr.heap.size := lt_of_get h.gen
  have a4 := h.two.lt
  refine ⟨h.ps.edge h1 h2 h3, h.gen.keep h3 (fun e => ?_), h.two.keep h3 (fun e => ?_), fun b hb => ?_, h.i1, h.i2, h.dg⟩
  · rcases e with e | e
    · omega
    · exact (h.ne _ e).2 rfl
  · rcases e with e | e
    · omega
    · exact (h.ne _ e).1 rfl
  · rcases h2 with h2 | ⟨g', h2, h4⟩
    · rw [h2] at hb; exact h.ne b hb
    · rw [h2] at hb; cases hb; omega
end
theorem addNode_at {w : World} {bb lo k : Nat} {P ns : List (Int × Int)} {nv ev : Value} {es : List Lnk} {a b : Int} (h : Bd w bb lo P nv ns ev es) (hk : P.idxOf (a, b) = k) (hlo : lo ≤ w.heap.size) (hlen : ns.length ≤ 100000) :
    Calls Tryz.prog 252 #[.pointer (some ⟨bb, 0, none⟩), .iface 86 (.agg #[.int .i64 (k : Int), nodeV a, nodeV b])] w (AddPost w bb lo P ns nv ev es (a, b)) := by
  have := addNode_spec h (a, b) hlo hlen
  unfold pn at this
  rwa [hk] at this
end Go.Proofs.YtdaccgelmcmfjaaGreatDoor
end
