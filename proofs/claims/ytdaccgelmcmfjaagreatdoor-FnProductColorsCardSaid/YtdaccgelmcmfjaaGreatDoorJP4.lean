/- product.cartesianNodes: both lists of nodes, and their pairs. -/
import Derived.Test.YtdaccgelmcmfjaaGreatDoorJP2
import Derived.Test.YtdaccgelmcmfjaaGreatDoorJP1
import Derived.BigRegion
set_option linter.all false
section
namespace Go.Proofs.YtdaccgelmcmfjaaGreatDoor
open Go.RowKit Go.V
def CNPost (w : World) (A B : List Int) (e : Ending) (w' : World) : Prop :=
  ∃ (av bv : Value) (gp : Nat), e = .returned (.tuple #[av, bv, .slice (some ⟨gp, 0, none⟩) (A.length * B.length) (A.length * B.length)]) ∧ Row w'.heap.size w' av (A.map nodeV) ∧ Row w'.heap.size w' bv (B.map nodeV) ∧ PAt w' gp A B (A.length * B.length) ∧ w.heap.size ≤ gp ∧ (∀ g, av.ownBlock = some g → w.heap.size ≤ g) ∧ (∀ g, bv.ownBlock = some g → w.heap.size ≤ g) ∧ Keep (fun _ => False) w w'
theorem nodes_n {B n : Nat} {w : World} {v : Value} {l : List Int} (h : Row B w v (l.map nodeV)) (hn : l.length = n) :
    ∃ a cap, v = .slice a n cap ∧ ∀ k, k < n → ∃ b off u, a = some ⟨b, off, none⟩ ∧ l[k]? = some u ∧ b < B ∧ ∀ S W, Keep S w W → (∀ k, S k → B ≤ k) → W.cell? ⟨b, off + k, none⟩ = some (nodeV u) := hn ▸ nodes_cases h
theorem node_cells {B n bb lo : Nat} {w : World} {v : Value} {l : List Int} (h : Row B w v (l.map nodeV)) (hn : l.length = n) (hg : ∀ g, v.ownBlock = some g → lo ≤ g) (hbb : bb < lo) :
    ∃ a cap, v = .slice a n cap ∧ ∀ k, k < n → ∃ b off u, a = some ⟨b, off, none⟩ ∧ l[k]? = some u ∧ ∀ W, Keep (fun x => x = bb) w W → W.cell? ⟨b, off + k, none⟩ = some (nodeV u) := by
  subst hn
  rcases h with ⟨rfl, hu⟩ | ⟨b, off, cap, rfl, hB, hc, hl, hm⟩
  · have : l = [] := by simpa using hu
    subst this
    exact ⟨none, 0, rfl, fun k hk => by cases hk⟩
  · rw [List.length_map]
    refine ⟨_, cap, rfl, fun k hk => ⟨b, off, _, rfl, List.getElem?_eq_getElem hk, fun W hk' => ?_⟩⟩
    have := hc k (nodeV l[k]) (by rw [List.getElem?_map, List.getElem?_eq_getElem hk]; rfl)
    have hgb := hg b rfl
    rw [hk'.cell (a := ⟨b, off + k, none⟩) (World.block_lt_of_cell? _ _ this) (fun e => by have e : b = bb := e; omega)]; exact this
theorem mkTwo (w : World) : (Instr.makeSlice 22 (.int .i64 2) (.int .i64 2)).run Tryz.prog w = .ok (twoV w.heap.size) (w.alloc (.cells #[.int .i64 0, .int .i64 0] 3 (0, 0))) := by kernel_rfl
theorem Gen.lt {w : World} {g d rows : Nat} {idx : Int} (h : Gen w g d rows idx) : g < w.heap.size := lt_of_get h
set_option maxHeartbeats 8000000 in
set_option maxRecDepth 20000 in
theorem cartNodes_spec {B1 pa pb : Nat} {w : World} {GA GB : PG} (hA : Plain B1 w pa GA) (hB : Plain B1 w pb GB) (hB1 : B1 ≤ w.heap.size) (a0 : 0 < GA.ids.length) (b0 : 0 < GB.ids.length) (a1 : GA.ids.length ≤ 100) (b1 : GB.ids.length ≤ 100) :
    Calls Tryz.prog 27 #[gV pa, gV pb] w (CNPost w GA.ids GB.ids) := by
  unfold CNPost
  have hla := lexical_spec hA a0
  have hlb := fun W (hk : Keep (fun _ => False) w W) => lexical_spec (hB.keepF hk) b0
  have HLA := Lib.hid hla
  have HLB := Lib.hid hlb
  clear hla hlb hA hB
  generalize GA.ids = A at *
  generalize GB.ids = B at *
  have hget := pairsOf_get A B
  have hpl := pairsOf_length A B
  have HGET := Lib.hid hget
  clear hget
  have hmul : A.length * B.length ≤ 10000 := Nat.le_trans (Nat.mul_le_mul a1 b1) (by decide)
  have hpos : 0 < A.length * B.length := Nat.mul_pos a0 b0
  have hcard : ∀ W d, Two W d (A.length : Int) (B.length : Int) → Calls Tryz.prog 47 #[twoV d] W fun e w' => e = .returned (.int .i64 ((A.length * B.length : Nat) : Int)) ∧ W = w' := fun W d h => card_spec h (by omega) (by omega)
  have hgen : ∀ W d, Two W d (A.length : Int) (B.length : Int) → Calls Tryz.prog 48 #[twoV d] W fun e w' => e = .returned (.pointer (some ⟨W.heap.size, 0, none⟩)) ∧ Gen w' W.heap.size d (A.length * B.length) (-1) ∧ Keep (fun _ => False) W w' ∧ w'.heap.size = W.heap.size + 1 := fun W d h => newGen_spec h (by omega) (by omega)
  have hprod : ∀ (W : World) (s d g i j : Nat) (x y : Int), i < A.length → j < B.length → Gen W g d (A.length * B.length) ((i * B.length + j : Nat) : Int) → Two W s x y → Two W d (A.length : Int) (B.length : Int) → s ≠ d → Calls Tryz.prog 50 #[.pointer (some ⟨g, 0, none⟩), twoV s] W fun e w' => e = .returned (twoV s) ∧ Two w' s (i : Int) (j : Int) ∧ Keep (fun b => b = s) W w' ∧ w'.heap.size = W.heap.size :=
    fun W s d g i j x y h1 h2 h3 h4 h5 h6 => product_spec h3 h4 h5 h6 h1 h2 (by omega) (by omega)
  have hmk := fun W => mkP W (A.length * B.length) (by omega)
  have hstep := fun (W : World) (gp k : Nat) (a b : Int) => @PAt.step W gp A B k a b
  have hdm : ∀ k, k < A.length * B.length → k / B.length < A.length ∧ k % B.length < B.length ∧ k / B.length * B.length + k % B.length = k := fun k hk =>
    ⟨Nat.div_lt_of_lt_mul (by rwa [Nat.mul_comm]), Nat.mod_lt _ b0, by rw [Nat.mul_comm]; exact Nat.div_add_mod k _⟩
  have hhas : ∀ (W : World) (gp k i : Nat), PAt W gp A B k → i < A.length * B.length * 3 → ∃ v, W.cell? ⟨gp, i, none⟩ = some v := fun W gp k i h hi => h.has hi
  have hp0 : ∀ (W : World) (cs : Array Value), cs.size = A.length * B.length * 3 → PAt (W.alloc (.cells cs 86 (0, 0))) W.heap.size A B 0 := fun W cs hc => ⟨cs, heap_new W _, hc, fun q hq => absurd hq (Nat.not_lt_zero _)⟩
  generalize hNN : A.length * B.length = N at *
  generalize hnn : A.length = n at *
  generalize hmm : B.length = m at *
  have HCARD := Lib.hid hcard
  have HGEN := Lib.hid hgen
  have HPROD := Lib.hid hprod
  have HMK := Lib.hid hmk
  have HSTEP := Lib.hid hstep
  have HDM := Lib.hid hdm
  have HHAS := Lib.hid hhas
  have HP0 := Lib.hid hp0
  have HNA := Lib.hid hnn
  have HNB := Lib.hid hmm
  clear hcard hgen hprod hmk hstep hdm hhas hp0 hNN hnn hmm hpl
  go_enter Tryz.func27, Tryz.ntmps27
  go_upto_region 3 with (first
    | (((with_reducible refine (HLA.out).mono ?_); rintro e w1 ⟨av, rfl, hra, hga, hk1⟩); obtain ⟨aa, ac, rfl, hac⟩ := nodes_n hra HNA.out; have HRA := Lib.hid hra; have HAC := Lib.hid hac; have HK1 := Lib.hid hk1; have HGA := Lib.hid hga; clear hra hac hga hk1)
    | (((with_reducible refine (HLB.out _ HK1.out).mono ?_); rintro e w2 ⟨bv, rfl, hrb, hgb, hk2⟩); obtain ⟨ba, bc, rfl, hbc⟩ := nodes_n hrb HNB.out; have HRB := Lib.hid hrb; have HBC := Lib.hid hbc; have HK2 := Lib.hid hk2; have HGB := Lib.hid hgb; clear hrb hbc hgb hk2))
  obtain ⟨W3, hW3⟩ : ∃ W, W = w2.alloc (.cells #[.int .i64 (n : Int), .int .i64 (m : Int)] 3 (0, 0)) := ⟨_, rfl⟩
  have hd3 : Two W3 w2.heap.size (n : Int) (m : Int) := by rw [hW3]; exact heap_new w2 _
  have hs3 : W3.heap.size = w2.heap.size + 1 := by rw [hW3]; simp
  have hk3 : Keep (fun _ => False) w2 W3 := by rw [hW3]; exact (Keep.refl _ w2).alloc _
  obtain ⟨cs, hcs, hmk⟩ := HMK.out W3
  obtain ⟨W4, hW4⟩ : ∃ W, W = W3.alloc (.cells cs 86 (0, 0)) := ⟨_, rfl⟩
  have hp4 : PAt W4 W3.heap.size A B 0 := by rw [hW4]; exact HP0.out W3 cs hcs
  have hk4 : Keep (fun _ => False) W3 W4 := by rw [hW4]; exact (Keep.refl _ W3).alloc _
  have hs4 : W4.heap.size = w2.heap.size + 2 := by rw [hW4, World.size_alloc, hs3]
  rw [hs3] at hp4 hmk
  rw [← hW4] at hmk
  have hd4 := hd3.keepF hk4
  have HD3 := Lib.hid hd3
  have HD4 := Lib.hid hd4
  have HP4 := Lib.hid hp4
  have HK4 := Lib.hid (hk3.trans hk4 (fun _ _ h => h))
  rw [hW3] at hmk
  have HW3 := Lib.hid hW3
  have HS4 := Lib.hid hs4
  clear hd3 hd4 hp4 hk3 hk4 hs3 hs4 hcs hW4 hW3
  go_upto_region 6 with (first
    | (((with_reducible refine (HCARD.out _ _ (by rw [← HW3.out]; exact HD3.out)).mono ?_); rintro e w3 ⟨rfl, rfl⟩))
    | (((with_reducible refine (HGEN.out _ _ HD4.out).mono ?_); rintro e w5 ⟨rfl, hg5, hk5, hs5⟩); have HG5 := Lib.hid hg5; have HK5 := Lib.hid hk5; have HS5 := Lib.hid hs5; clear hg5 hk5 hs5))
  have hmt := mkTwo w5
  go_wp2_with fail
  have hs6 : (w5.alloc (.cells #[.int .i64 0, .int .i64 0] 3 (0, 0))).heap.size = w5.heap.size + 1 := by simp
  have hk6 : Keep (fun _ => False) w5 (w5.alloc (.cells #[.int .i64 0, .int .i64 0] 3 (0, 0))) := (Keep.refl _ w5).alloc _
  have ht6 : Two (w5.alloc (.cells #[.int .i64 0, .int .i64 0] 3 (0, 0))) w5.heap.size 0 0 := heap_new w5 _
  have hg6 := HG5.out.keep hk6 (fun h => h)
  have hd6 := (HD4.out.keepF HK5.out).keepF hk6
  have hp6 := (HP4.out.keep HK5.out (fun h => h)).keep hk6 (fun h => h)
  have hk26 : Keep (fun b => w2.heap.size ≤ b) w2 (w5.alloc (.cells #[.int .i64 0, .int .i64 0] 3 (0, 0))) := ((HK4.out.trans HK5.out (fun _ _ h => h)).trans hk6 (fun _ _ h => h)).mono (fun _ _ h => h.elim)
  have hz4 : w2.heap.size + 1 < W4.heap.size := by have := HS4.out; omega
  have hz5 : W4.heap.size < w5.heap.size := by have := HS5.out; omega
  have hz6 : w2.heap.size ≤ w5.heap.size := by omega
  generalize (w5.alloc (.cells #[.int .i64 0, .int .i64 0] 3 (0, 0))) = w6 at *
  have HT6 := Lib.hid ht6
  have HG6 := Lib.hid hg6
  have HD6 := Lib.hid hd6
  have HP6 := Lib.hid hp6
  have HK26 := Lib.hid hk26
  clear ht6 hg6 hd6 hp6 hk26 hmt hmk hk6 HG5 HD4 HP4 HD3 hs6 HS4 HS5 HK4 HK5 HW3
  generalize W4.heap.size = gb at *
  generalize w5.heap.size = sb at *
  clear W3 W4 w5
  go_loopg [9, 10] (N + 1) (fun gk p id wr => ∃ (k : Nat) (x y : Int), p = twoV sb ∧ id = .int .i64 (k : Int) ∧ k + gk = N + 1 ∧ k ≤ N ∧ Gen wr gb w2.heap.size N ((k : Int) - 1) ∧ Two wr sb x y ∧ Two wr w2.heap.size (n : Int) (m : Int) ∧ PAt wr (w2.heap.size + 1) A B k ∧ Keep (fun b => w2.heap.size ≤ b) w2 wr)
  case atStart => exact ⟨0, 0, 0, rfl, rfl, by omega, Nat.zero_le _, HG6.out, HT6.out, HD6.out, HP6.out, HK26.out⟩
  case round =>
    obtain ⟨k, x, y, rfl, rfl, hgk, hkN, hg, ht, hd, hp, hk⟩ := hrel
    clear HG6 HT6 HD6 HP6 HK26
    have HG := Lib.hid hg
    have HT := Lib.hid ht
    have HD := Lib.hid hd
    have HP := Lib.hid hp
    have HK := Lib.hid hk
    have HGK := Lib.hid hgk
    clear hg ht hd hp hk hgk
    by_cases hlt : k < N
    · obtain ⟨i1, j1, e1⟩ := HDM.out k hlt
      generalize k / m = i at *
      generalize k % m = j at *
      obtain ⟨ba1, off1, ua, rfl, hua, hb1, hca⟩ := HAC.out i i1
      obtain ⟨bb1, off2, ub, rfl, hub, hb2, hcb⟩ := HBC.out j j1
      have hpr := HGET.out i j ua ub hua hub
      rw [e1] at hpr
      have HPR := Lib.hid hpr
      have HCA := Lib.hid hca
      have HCB := Lib.hid hcb
      have E1 := Lib.hid e1
      clear hua hub hpr hca hcb e1
      go_upto_region 11 with (first
        | (((with_reducible refine (genNext_true HG.out hlt (by omega)).mono ?_); rintro e w7 ⟨rfl, q1, q2, q3⟩); have HG7 := Lib.hid q1; have HK7 := Lib.hid q2; have HT7 := Lib.hid (HT.out.keep q2 (by omega)); have HD7 := Lib.hid (HD.out.keep q2 (by omega)); clear q1 q2 q3)
        | (((with_reducible refine (HPROD.out _ _ _ _ i j x y i1 j1 (by rw [E1.out]; exact HG7.out) HT7.out HD7.out (by omega)).mono ?_); rintro e w8 ⟨rfl, q1, q2, q3⟩); have HT8 := Lib.hid q1; have HK8 := Lib.hid q2; clear q1 q2 q3))
      have hk8 : Keep (fun b => w2.heap.size ≤ b) w2 w8 := (HK.out.trans HK7.out (fun b hb h => by omega)).trans HK8.out (fun b hb h => by omega)
      have ca := HCA.out (fun b => w2.heap.size ≤ b) w8 ((HK2.out.mono (fun _ _ h => h.elim)).trans hk8 (fun _ _ h => h)) (fun k h => Nat.le_trans HK2.out.size h)
      have cb := HCB.out _ w8 hk8 (fun k h => h)
      obtain ⟨s0, s1, _, _⟩ := HT8.out.cells
      have hp8 := (HP.out.keep HK7.out (by omega)).keep HK8.out (by omega)
      obtain ⟨v0, p0⟩ := HHAS.out w8 _ k (k * 3) hp8 (by omega)
      obtain ⟨v1, p1⟩ := HHAS.out w8 _ k (k * 3 + 1) hp8 (by omega)
      obtain ⟨v2, p2⟩ := HHAS.out w8 _ k (k * 3 + 2) hp8 (by omega)
      have pf := hp8.free
      have pf0 := pf (k * 3)
      have pf1 := pf (k * 3 + 1)
      have pf2 := pf (k * 3 + 2)
      have hfin := HSTEP.out w8 _ k ua ub hp8 HPR.out
      have hg8 := HG7.out.keep HK8.out (by omega)
      have hd8 := HD7.out.keep HK8.out (by omega)
      have HFIN := Lib.hid hfin
      have HG8 := Lib.hid hg8
      have HD8 := Lib.hid hd8
      have HKW := Lib.hid hk8
      have hgpb := HP.out.lt
      clear hk8 hp8 hfin hg8 hd8 pf HAC HBC HCA HCB HG HT HD HP HG7 HT7 HD7 HSTEP HHAS HDM HPROD HGET HPR E1 HMK HP0 HLA HLB
      go_region
      all_goals (go_wp2_with fail)
      all_goals
        go_roundg (gk - 1)
        case measure => have := HGK.out; omega
        case rel =>
          have hks : Keep (fun b => b = w2.heap.size + 1) w8 (((w8.setCell ⟨w2.heap.size + 1, k * 3, none⟩ (.int .i64 (k : Int))).setCell ⟨w2.heap.size + 1, k * 3 + 1, none⟩ (nodeV ua)).setCell ⟨w2.heap.size + 1, k * 3 + 2, none⟩ (nodeV ub)).drew :=
            (((Keep.refl (fun b => b = w2.heap.size + 1) w8).setCell (a := ⟨w2.heap.size + 1, k * 3, none⟩) _ (fun _ => rfl)).setCell (a := ⟨w2.heap.size + 1, k * 3 + 1, none⟩) _ (fun _ => rfl)).setCell (a := ⟨w2.heap.size + 1, k * 3 + 2, none⟩) _ (fun _ => rfl) |>.drew
          refine ⟨k + 1, i, j, rfl, by go_num, by have := HGK.out; omega, by omega, ?_, HT8.out.keep hks (by omega), HD8.out.keep hks (by omega), HFIN.out.keep ((Keep.refl (fun _ => False) _).drew) (fun h => h), HKW.out.trans hks (fun b hb h => by omega)⟩
          rw [show ((k + 1 : Nat) : Int) - 1 = (k : Int) by omega]
          exact HG8.out.keep hks (by omega)
    · obtain rfl : k = N := by omega
      go_upto_region 12 with (first
        | (((with_reducible refine (genNext_false HG.out (by omega)).mono ?_); rintro e w7 ⟨rfl, q2, q3⟩); have HK7 := Lib.hid q2; clear q2 q3))
      have hk7 : Keep (fun b => w2.heap.size ≤ b) w2 w7 := HK.out.trans HK7.out (fun b hb h => by omega)
      have hk17 : Keep (fun b => w2.heap.size ≤ b) w1 w7 := (HK2.out.mono (fun _ _ h => h.elim)).trans hk7 (fun _ _ h => h)
      have hz12 := HK2.out.size
      have hra := (HRA.out.keep hk17 (fun b h => Nat.le_trans hz12 h)).mono hk17.size
      have hrb := (HRB.out.keep hk7 (fun b h => h)).mono hk7.size
      have hp7 := HP.out.keep HK7.out (show ¬ w2.heap.size + 1 = gb by omega)
      have hkw := HK1.out.trans hk17 (fun b hb h => by have := HK1.out.size; omega)
      have hgl : w.heap.size ≤ w2.heap.size + 1 := by have := HK1.out.size; omega
      have HRA7 := Lib.hid hra
      have HRB7 := Lib.hid hrb
      have HP7 := Lib.hid hp7
      have HKW := Lib.hid hkw
      clear hk7 hk17 hra hrb hp7 hkw HAC HBC HRA HRB HG HT HD HP HSTEP HHAS HDM HPROD HGET HMK HP0 HLA HLB
      go_wp2_with fail
      go_ret3
      exact ⟨_, _, _, rfl, HRA7.out, HRB7.out, HP7.out, hgl, HGA.out, fun g hg => Nat.le_trans HK1.out.size (HGB.out g hg), HKW.out⟩
end Go.Proofs.YtdaccgelmcmfjaaGreatDoor
end
/- What the six products ask and leave. -/
section
namespace Go.Proofs.YtdaccgelmcmfjaaGreatDoor
open Go.RowKit Go.V
def ProdPost (w : World) (bb : Nat) (P : List (Int × Int)) (es : List Lnk) (e : Ending) (w' : World) : Prop :=
  e = .returned (.tuple #[]) ∧ ∃ nv ev, Bd w' bb (bb + 1) P nv P ev es ∧ Keep (fun b => b = bb) w w'
def Bd0 (w : World) (bb : Nat) : Prop := w.heap[bb]? = some (.cells #[.bool false, .slice none 0 0, .slice none 0 0, .slice none 0 0] 64 (0, 0))
theorem Bd0.bd {w : World} {bb : Nat} {P : List (Int × Int)} (h : Bd0 w bb) : Bd w bb (bb + 1) P (.slice none 0 0) [] (.slice none 0 0) [] :=
  ⟨h, World.ownsRow_nil _ _ _ _, World.ownsRow_nil _ _ _ _, by omega⟩
theorem Bd0.lt {w : World} {bb : Nat} (h : Bd0 w bb) : bb < w.heap.size := lt_of_get h
theorem nbo_from {B1 pa bb : Nat} {w : World} {G : PG} (hG : Plain B1 w pa G) (hbb : B1 ≤ bb) {k : Nat} {u : Int} (hu : G.ids[k]? = some u) (W : World) (hk : Keep (fun b => b = bb) w W) :
    Calls Tryz.prog 257 #[uV pa, .int .i64 u] W fun e w' => ∃ tv, e = .returned tv ∧ FromAt W w' tv (nbo G u) := by
  have h := hG.keep hk (fun b e => by omega)
  rw [nbo_at hG.ok hu]
  exact (From_any h hu W (Keep.refl _ _)).mono (by rintro e w' ⟨it, g, rfl, h1, h2, h3, h4⟩; exact ⟨_, rfl, it, g, rfl, h1, h2, h3, h4⟩)
theorem keepBB {bb s : Nat} {w w' : World} (h : Keep (fun b => b = bb ∨ b = s ∨ (Value.slice none 0 0).ownBlock = some b) w w') : Keep (fun b => b = bb ∨ b = s) w w' := h.mono (fun b _ e => by
  rcases e with e | e | e
  · exact .inl e
  · exact .inr e
  · cases e)
end Go.Proofs.YtdaccgelmcmfjaaGreatDoor
end
