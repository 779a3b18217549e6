/- The plain last steps: the product as a graph, and what the numbers of colours say of one another. -/
import Derived.Test.YtdaccgelmcmfjaaGreatDoorJE0
import Derived.Test.YtdaccgelmcmfjaaGreatDoorJQ20
import Derived.Test.YtdaccgelmcmfjaaGreatDoorJR3
import Derived.Test.YtdaccgelmcmfjaaGreatDoorJP1
set_option linter.all false
section
namespace Go.V
theorem Colorable.congr {ids ids' : List Int} {adj adj' : Int → Int → Prop} {k : Nat} (h : ∀ u, u ∈ ids ↔ u ∈ ids') (ha : ∀ u v, adj u v ↔ adj' u v) (hc : Colorable ids adj k) : Colorable ids' adj' k :=
  hc.of_map (fun u => u) (fun u hu => (h u).2 hu) (fun u _ v _ huv => (ha u v).2 huv)
theorem Chi.congr {ids ids' : List Int} {adj adj' : Int → Int → Prop} {k : Nat} (h : ∀ u, u ∈ ids ↔ u ∈ ids') (ha : ∀ u v, adj u v ↔ adj' u v) (hc : Chi ids adj k) : Chi ids' adj' k :=
  ⟨hc.1.congr h ha, fun m hm => hc.2 m (hm.congr (fun u => (h u).symm) (fun u v => (ha u v).symm))⟩
theorem idx_inj {P : List (Int × Int)} {a b : Int × Int} (ha : a ∈ P) (hb : b ∈ P) (h : (P.idxOf a : Int) = (P.idxOf b : Int)) : a = b := by
  rw [← pr_idx ha, ← pr_idx hb, h]
theorem square_length {P : List (Int × Int)} : ∀ Q : List (Int × Int), (Q.flatMap fun p => P.map fun q => (p, q)).length = Q.length * P.length := fun Q => by
  induction Q with
  | nil => simp
  | cons q Q ih => rw [List.flatMap_cons, List.length_append, ih, List.length_map, List.length_cons, Nat.succ_mul, Nat.add_comm]
theorem nodup_len {α : Type} [DecidableEq α] : ∀ (l m : List α), l.Nodup → (∀ x ∈ l, x ∈ m) → l.length ≤ m.length
  | [], _, _, _ => Nat.zero_le _
  | a :: l, m, hn, hs => by
    obtain ⟨h1, h2⟩ := List.nodup_cons.1 hn
    have ha : a ∈ m := hs a (by simp)
    have := nodup_len l (m.erase a) h2 (fun x hx => (List.mem_erase_of_ne (fun e => h1 (by rw [← e]; exact hx))).2 (hs x (by simp [hx])))
    rw [List.length_erase_of_mem ha] at this
    have := List.length_pos_of_mem ha
    rw [List.length_cons]
    omega
theorem links_few {P : List (Int × Int)} {L : List Lnk} (hs : L.Pairwise llt) (hm : ∀ l ∈ L, l.1 ∈ P ∧ l.2 ∈ P) : L.length ≤ P.length * P.length := by
  have hn : L.Nodup := hs.imp (S := fun a b => a ≠ b) fun {a b} h e => llt_irrefl a (by rw [← e] at h; exact h)
  have h := nodup_len L (P.flatMap fun p => P.map fun q => (p, q)) hn (fun l hl => by
    obtain ⟨h1, h2⟩ := hm l hl
    exact List.mem_flatMap.2 ⟨l.1, h1, List.mem_map.2 ⟨l.2, h2, rfl⟩⟩)
  rwa [square_length] at h
end Go.V
namespace Go.Proofs.YtdaccgelmcmfjaaGreatDoor
open Go.RowKit Go.V
def prodG (P : List (Int × Int)) (L : List Lnk) : IG := ⟨false, placesOf P, L.map fun l => ((P.idxOf l.1 : Int), (P.idxOf l.2 : Int), 1)⟩
theorem prodG_good {P : List (Int × Int)} {L : List Lnk} (hL : ∀ l ∈ L, l.1 ∈ P ∧ l.2 ∈ P ∧ l.1 ≠ l.2) (h1 : P.length ≤ 1000) (h2 : L.length ≤ 1000000) : GoodU (prodG P L) := by
  refine ⟨⟨placesOf_nodup P, fun e he => ?_⟩, rfl, by simpa [prodG, placesOf] using h1, by simpa [prodG] using h2⟩
  obtain ⟨l, hl, rfl⟩ := List.mem_map.1 he
  obtain ⟨p1, p2, p3⟩ := hL l hl
  exact ⟨mem_placesOf.2 ⟨_, List.idxOf_lt_length_iff.2 p1, rfl⟩, mem_placesOf.2 ⟨_, List.idxOf_lt_length_iff.2 p2, rfl⟩, fun e => p3 (idx_inj p1 p2 e), show (-1099511627776 : Int) ≤ 1 by decide, show (1 : Int) ≤ 1099511627776 by decide⟩
theorem prodG_adj {P : List (Int × Int)} {L : List Lnk} {G : PG} (hr : Reads (prodG P L) G) (u v : Int) : G.adj u v ↔ adjL P L u v := by
  rw [hr.adj]
  constructor
  · rintro ⟨e, he, h⟩
    obtain ⟨l, hl, rfl⟩ := List.mem_map.1 he
    refine ⟨l, hl, ?_⟩
    rcases h with h | ⟨_, h⟩
    · exact .inl h
    · exact .inr h
  · rintro ⟨l, hl, h⟩
    refine ⟨_, List.mem_map.2 ⟨l, hl, rfl⟩, ?_⟩
    rcases h with h | h
    · exact .inl h
    · exact .inr ⟨rfl, h⟩
theorem reads_ids {g : IG} {G G' : PG} (h : Reads g G) (h' : Reads g G') : G.ids = G'.ids := by rw [h.ids, h'.ids]
theorem reads_adj {g : IG} {G G' : PG} (h : Reads g G) (h' : Reads g G') (u v : Int) : G.adj u v ↔ G'.adj u v := by rw [h.adj, h'.adj]
theorem Chi.reads {g : IG} {G G' : PG} {k : Nat} (h : Reads g G) (h' : Reads g G') (hc : Chi G.ids G.adj k) : Chi G'.ids G'.adj k :=
  Chi.congr (fun u => by rw [reads_ids h h']) (reads_adj h h') hc
theorem reads_ne {g : IG} {G : PG} (h : Reads g G) (h0 : 0 < g.nodes.length) : G.ids ≠ [] := fun e => by
  have := congrArg List.length e
  rw [h.ids, isort_length, List.length_nil] at this
  omega
theorem isort_asc {xs : List Int} (h : xs.Pairwise (· ≤ ·)) : isort xs = xs :=
  List.mergeSort_of_pairwise (h.imp fun {a b} h => by simpa using h)
end Go.Proofs.YtdaccgelmcmfjaaGreatDoor
end
/- laws.place: where a pair stands. -/
section
namespace Go.Proofs.YtdaccgelmcmfjaaGreatDoor
open Go.RowKit Go.V
theorem eqPair (x y : Int × Int) (w : World) : (binOp .eql 47 (.agg #[.int .i64 x.1, .int .i64 x.2]) (.agg #[.int .i64 y.1, .int .i64 y.2])).run Tryz.prog w = .ok (.bool (decide (x = y))) w := by
  have h : decide (x = y) = (decide (x.1 = y.1) && decide (x.2 = y.2)) := by
    rw [Bool.eq_iff_iff]
    simp only [Bool.and_eq_true, decide_eq_true_eq]
    constructor
    · rintro rfl; exact ⟨rfl, rfl⟩
    · rintro ⟨h1, h2⟩
      exact Prod.ext h1 h2
  rw [h]
  go_simp
  by_cases h1 : x.1 = y.1 <;> by_cases h2 : x.2 = y.2 <;> simp [h1, h2]
theorem PRow.keepF {w w' : World} {v : Value} {P : List (Int × Int)} (h : PRow w v P) (hk : Keep (fun _ => False) w w') : PRow w' v P := by
  obtain ⟨g, cap, rfl, h1, h2⟩ := h
  exact ⟨g, cap, rfl, h1.keep hk (fun h => h), Nat.lt_of_lt_of_le h2 hk.size⟩
theorem PRow.cells {w : World} {g : Nat} {P : List (Int × Int)} (hc : Cells w g 0 (P.flatMap pairA)) {k : Nat} {p : Int × Int} (hp : P[k]? = some p) : w.cell? ⟨g, k * 2, none⟩ = some (.int .i64 p.1) ∧ w.cell? ⟨g, k * 2 + 1, none⟩ = some (.int .i64 p.2) := by
  have f := fun c v hc' hv => hc (k * 2 + c) v ((flat_get pairA 2 (fun _ => rfl) (by decide) P k c p hp hc').trans hv)
  have f0 := f 0 _ (by decide) rfl
  have f1 := f 1 _ (by decide) rfl
  rw [Nat.zero_add] at f0 f1
  exact ⟨f0, f1⟩
theorem idx_first {P : List (Int × Int)} {x : Int × Int} {j : Nat} (h1 : P[j]? = some x) (h2 : ∀ t p, t < j → P[t]? = some p → p ≠ x) : P.idxOf x = j := by
  induction P generalizing j with
  | nil => simp at h1
  | cons p P ih =>
    cases j with
    | zero =>
      rw [List.getElem?_cons_zero] at h1
      cases h1
      rw [List.idxOf_cons_self]
    | succ j =>
      have hne : p ≠ x := h2 0 p (by omega) rfl
      have e := ih (by simpa using h1) (fun t q ht hq => h2 (t + 1) q (by omega) (by simpa using hq))
      rw [List.idxOf_cons, show (p == x) = false by simpa using hne, e]
      rfl
set_option maxHeartbeats 4000000 in
set_option maxRecDepth 20000 in
theorem place_spec {w : World} {v : Value} {P : List (Int × Int)} (h : PRow w v P) (hP : P.length ≤ 1000) (x : Int × Int) (hx : x ∈ P) :
    Calls Tryz.prog 16 #[v, .agg #[.int .i64 x.1, .int .i64 x.2]] w fun e w' => e = .returned (.int .i64 (P.idxOf x : Int)) ∧ Keep (fun _ => False) w w' := by
  obtain ⟨g, cap, rfl, hc, hg⟩ := h
  have hcc := fun W (hk : Keep (fun _ => False) w W) k p (hp : P[k]? = some p) => PRow.cells (hc.keep hk (fun h => h)) hp
  have hrow : ∀ j, j < P.length → ∃ p, P[j]? = some p := fun j hj => ⟨_, List.getElem?_eq_getElem hj⟩
  have hfi := fun j => @idx_first P x j
  have hnn : ∀ n, P.length ≤ n → ¬ (∀ t p, t < n → P[t]? = some p → p ≠ x) := fun n hn h => by
    obtain ⟨t, ht⟩ := List.mem_iff_getElem?.1 hx
    exact h t x (by have := (List.getElem?_eq_some_iff.1 ht).1; omega) ht rfl
  have hbx : ∀ W, Keep (fun _ => False) (w.alloc (.cells #[.int .i64 x.1, .int .i64 x.2] 47 (0, 0))) W → W.cell? ⟨w.heap.size, 0, none⟩ = some (.int .i64 x.1) ∧ W.cell? ⟨w.heap.size, 1, none⟩ = some (.int .i64 x.2) := fun W hk => by
    have h' := hk.get (heap_new w _) (fun h => h)
    exact ⟨by rw [cell_of h']; rfl, by rw [cell_of h']; rfl⟩
  have heq := fun p w => eqPair x p w
  generalize hN : P.length = N at *
  generalize hidx : P.idxOf x = q at *
  have HCC := Lib.hid hcc
  have HROW := Lib.hid hrow
  have HFI := Lib.hid hfi
  have HNN := Lib.hid hnn
  have HBX := Lib.hid hbx
  have HEQ := Lib.hid heq
  clear hcc hrow hfi hnn hbx heq hc hN hidx hx
  go_enter Tryz.func16, Tryz.ntmps16
  go_wp2_with fail
  go_loopw [5, 8] (fun _ i wr => ∃ j : Nat, i = .int .i64 (j : Int) ∧ j ≤ N ∧ (∀ t p, t < j → P[t]? = some p → p ≠ x) ∧ Keep (fun _ => False) (w.alloc (.cells #[.int .i64 x.1, .int .i64 x.2] 47 (0, 0))) wr) (fun _ i _ => N - (intOf i).toNat)
  case atStart => exact ⟨0, rfl, Nat.zero_le _, fun t p ht _ => absurd ht (Nat.not_lt_zero _), Keep.refl _ _⟩
  case round =>
    obtain ⟨j, rfl, hj, hq, hk⟩ := hrel
    have HQ := Lib.hid hq
    have HK := Lib.hid hk
    have hkw : Keep (fun _ => False) w wr := ((Keep.refl _ w).alloc _).trans hk (fun _ _ h => h)
    have HKW := Lib.hid hkw
    clear hq hk hkw
    by_cases hlt : j < N
    · obtain ⟨p, hp⟩ := HROW.out j hlt
      obtain ⟨c0, c1⟩ := HCC.out wr HKW.out j p hp
      obtain ⟨d0, d1⟩ := HBX.out wr HK.out
      have he := HEQ.out p
      have HP := Lib.hid hp
      clear hp
      by_cases hpx : p = x
      · subst hpx
        have he' : ∀ w, (binOp .eql 47 (.agg #[.int .i64 p.1, .int .i64 p.2]) (.agg #[.int .i64 p.1, .int .i64 p.2])).run Tryz.prog w = .ok (.bool true) w := fun w => by rw [he w]; simp
        clear he
        go_wp2_with fail
        go_quiet (fail)
        all_goals (go_wp2_with fail)
        go_ret
        exact ⟨by rw [HFI.out _ HP.out HQ.out]; rfl, HKW.out.drewN _⟩
      · have he' : ∀ w, (binOp .eql 47 (.agg #[.int .i64 x.1, .int .i64 x.2]) (.agg #[.int .i64 p.1, .int .i64 p.2])).run Tryz.prog w = .ok (.bool false) w := fun w => by rw [he w]; simp [Ne.symm hpx]
        have HPX := Lib.hid hpx
        clear he hpx
        go_wp2_with fail
        go_quiet (fail)
        all_goals (go_wp2_with fail)
        go_roundw
        case rel => exact ⟨j + 1, by go_num, by omega, fun t r ht hr => by
          rcases Nat.lt_or_ge t j with h | h
          · exact HQ.out t r h hr
          · obtain rfl : t = j := by omega
            rw [HP.out] at hr; cases hr; exact HPX.out, HK.out.drewN _⟩
        case measure => simp [intOf]; omega
    · exact absurd HQ.out (HNN.out j (by omega))
end Go.Proofs.YtdaccgelmcmfjaaGreatDoor
end
/- The drawn region of laws.asGraph (written by gen_as.py). -/
section
namespace Go.Proofs.YtdaccgelmcmfjaaGreatDoor
open Go.RowKit Go.V
section
variable {P : Program} {ops : Array Oper} {Q : Exit → Act → World → Prop} {L : List VM} {j : Nat} {a : Act} {w : World} {o : Oper}
theorem OwesM.val (ho : ops[j]? = some o) (hg : o.guard = none) {v : Value} {w' : World} (hrun : (execOp a.eval o).run P w = .ok (.value v) w')
    (hV : (L.getD j .any).ok (cut ops j v) w') (hR : Keep (fun _ => False) w w') : OwesM P ops Q L j a w := by
  unfold OwesM wpOp
  simp only [ho, Region.wanted, hg, if_true]
  refine .inl ?_
  unfold Oper.wp
  rw [hrun]
  exact ⟨v, by simp [dstOf, ho], hV, hR⟩
theorem OwesM.call {f : FuncId} {args : Array Value} (ho : ops[j]? = some o) (hg : o.guard = none) (hrun : (execOp a.eval o).run P w = .ok (.enter f args) w)
    (hc : Calls P f args w fun e w'' => ∃ v, e = .returned v ∧ (L.getD j .any).ok (cut ops j v) w'' ∧ Keep (fun _ => False) w w'') : OwesM P ops Q L j a w := by
  unfold OwesM wpOp
  simp only [ho, Region.wanted, hg, if_true]
  refine .inl ?_
  unfold Oper.wp
  rw [hrun]
  refine hc.mono ?_
  rintro e w'' ⟨v, rfl, h1, h2⟩
  exact ⟨v, by simp [dstOf, ho], h1, h2⟩
theorem OwesM.move {x : Operand} (ho : ops[j]? = some o) (hg : o.guard = none) (hop : o.op = .move x) {v : Value} (hx : a.eval x = v) (hV : (L.getD j .any).ok (cut ops j v) w) : OwesM P ops Q L j a w :=
  .val ho hg (by unfold execOp; rw [hop]; dsimp only; rw [hx]; rfl) hV (Keep.refl _ _)
theorem OwesM.load {t : TypeId} {x : Operand} (ho : ops[j]? = some o) (hg : o.guard = none) (hop : o.op = .load t x) {u v : Value} (hx : a.eval x = u) (hr : (Instr.loadAt t u).run P w = .ok v w) (hV : (L.getD j .any).ok (cut ops j v) w) : OwesM P ops Q L j a w :=
  .val ho hg (by unfold execOp; rw [hop]; dsimp only; rw [hx]; exact run_v hr) hV (Keep.refl _ _)
theorem OwesM.faddr {t : TypeId} {x : Operand} {f : Nat} (ho : ops[j]? = some o) (hg : o.guard = none) (hop : o.op = .fieldAddr t x f) {u v : Value} (hx : a.eval x = u) (hr : (Instr.fieldAt t u f).run P w = .ok v w) (hV : (L.getD j .any).ok (cut ops j v) w) : OwesM P ops Q L j a w :=
  .val ho hg (by unfold execOp; rw [hop]; dsimp only; rw [hx]; exact run_v hr) hV (Keep.refl _ _)
theorem OwesM.iaddr {t : TypeId} {x i : Operand} (ho : ops[j]? = some o) (hg : o.guard = none) (hop : o.op = .indexAddr t x i) {u y v : Value} (hx : a.eval x = u) (hi : a.eval i = y) (hr : (Instr.indexAt t u y).run P w = .ok v w) (hV : (L.getD j .any).ok (cut ops j v) w) : OwesM P ops Q L j a w :=
  .val ho hg (by unfold execOp; rw [hop]; dsimp only; rw [hx, hi]; exact run_v hr) hV (Keep.refl _ _)
theorem OwesM.build {t : TypeId} {ps : Array (Nat × Operand)} {qs : Array (Nat × Value)} (ho : ops[j]? = some o) (hg : o.guard = none) (hop : o.op = .build t ps) (hq : (ps.map fun (i, x) => (i, a.eval x)) = qs) {v : Value} (hr : (Instr.build t qs).run P w = .ok v w) (hV : (L.getD j .any).ok (cut ops j v) w) : OwesM P ops Q L j a w :=
  .val ho hg (by unfold execOp; rw [hop]; dsimp only; rw [hq]; exact run_v hr) hV (Keep.refl _ _)
theorem run_v' {s : Sem Value} {v : Value} {w' : World} (h : s.run P w = .ok v w') : (do pure (Next.value (← s)) : Sem Next).run P w = .ok (.value v) w' := by
  rw [Sem.run_bind, h]; rfl
theorem OwesM.bslice {t : TypeId} {n : Nat} {ps : Array (Nat × Operand)} {qs : Array (Nat × Value)} (ho : ops[j]? = some o) (hg : o.guard = none) (hop : o.op = .buildSlice t n ps) (hq : (ps.map fun (i, x) => (i, a.eval x)) = qs) {v : Value} {w' : World} (hr : (Instr.buildSlice t n qs).run P w = .ok v w') (hR : Keep (fun _ => False) w w') (hV : (L.getD j .any).ok (cut ops j v) w') : OwesM P ops Q L j a w :=
  .val ho hg (by unfold execOp; rw [hop]; dsimp only; rw [hq]; exact run_v' hr) hV hR
theorem OwesM.fn {c : Call} {f : FuncId} {args : Array Value} (ho : ops[j]? = some o) (hg : o.guard = none) (hop : o.op = .call c) (hc : c.callee = .value (.func f)) (ha : c.args.map a.eval = args) (eg : (callFunc f args).run P w = .ok (.enter f args) w)
    (h : Calls P f args w fun e w'' => ∃ v, e = .returned v ∧ (L.getD j .any).ok (cut ops j v) w'' ∧ Keep (fun _ => False) w w'') : OwesM P ops Q L j a w :=
  .call ho hg (by unfold execOp; rw [hop]; exact run_static hc ha eg) h
theorem wpOp_val (ho : ops[j]? = some o) (hg : o.guard = none) {v : Value} {w' : World} (hrun : (execOp a.eval o).run P w = .ok (.value v) w') {K : Act → World → Prop} (h : K (a.put o.dst v) w') : wpOp P ops Q j K a w := by
  unfold wpOp
  simp only [ho, Region.wanted, hg, if_true]
  refine .inl ?_
  unfold Oper.wp
  rw [hrun]
  exact h
theorem wpOp_skip (ho : ops[j]? = some o) (hg : o.guard = none) {w' : World} (hrun : (execOp a.eval o).run P w = .ok .skip w') {K : Act → World → Prop} (h : K (a.put o.dst undef) w') : wpOp P ops Q j K a w := by
  unfold wpOp
  simp only [ho, Region.wanted, hg, if_true]
  refine .inl ?_
  unfold Oper.wp
  rw [hrun]
  exact h
theorem wpOp_faddr {t : TypeId} {x : Operand} {f : Nat} (ho : ops[j]? = some o) (hg : o.guard = none) (hop : o.op = .fieldAddr t x f) {u v : Value} (hx : a.eval x = u) (hr : (Instr.fieldAt t u f).run P w = .ok v w) {K : Act → World → Prop} (h : K (a.put o.dst v) w) : wpOp P ops Q j K a w :=
  wpOp_val ho hg (by unfold execOp; rw [hop]; dsimp only; rw [hx]; exact run_v hr) h
theorem run_u {s : Sem Unit} {w' : World} (h : s.run P w = .ok () w') : ((do s; pure .skip) : Sem Next).run P w = .ok .skip w' := by
  simp [Sem.run_bind, h, Sem.run]
theorem wpOp_push {s x : Operand} {t : TypeId} (ho : ops[j]? = some o) (hg : o.guard = none) (hop : o.op = .call { callee := .builtin .append, args := #[s, x], argTypes := #[t, t] })
    {S : Nat → Prop} {w0 w1 : World} (hk0 : Keep S w0 w1) (hk1 : Keep (fun _ => False) w1 w) {e : TypeId} {size bytes : Nat} {z : Value} (hi : (P.info? e).map (fun i => (i.zero, i.size, i.bytes)) = some (some z, size, bytes)) (ht : P.underlying t = some (.slice e))
    (hzs : z.cells.size = size) (hsz : 0 < size)
    (v : Value) (n : Nat) (xs : List Value) (hs : a.eval s = v) (hown : w1.ownsRow w0.heap.size e size v n xs)
    (ad : Addr) (m c : Nat) (news : List Value) (hx : a.eval x = .slice (some ad) m c) (hl : news.length = m * size) (hnews : ∀ j u, news[j]? = some u → w.cell? (ad.add j) = some u) (h1 : ∀ u ∈ news, u.oneCell' = true)
    (hm : 0 < m) (h63 : n + m ≤ maxLen) (hbytes : (n + m) * bytes ≤ 140737488355328) {K : Act → World → Prop}
    (h : ∀ g cap w', w'.ownsRow w0.heap.size e size (.slice (some ⟨g, 0, none⟩) (n + m) cap) (n + m) (xs ++ news) → Keep (fun b => v.ownBlock = some b) w w' → (v.ownBlock = some g ∨ g = w.heap.size) → K (a.put o.dst (.slice (some ⟨g, 0, none⟩) (n + m) cap)) w') : wpOp P ops Q j K a w := by
  obtain ⟨g, cap, w', q1, q2, q3, q4, q5, q6, q7⟩ := exec_push hop hk0 hk1 hi ht hzs hsz v n xs hs hown ad m c news hx hl hnews h1 hm h63 hbytes
  exact wpOp_val ho hg q1 (h g cap w' q2 q6 q7)
theorem wpOp_store {t : TypeId} {x y : Operand} (ho : ops[j]? = some o) (hg : o.guard = none) (hop : o.op = .store t x y) (hd : o.dst = none) {u v : Value} (hx : a.eval x = u) (hy : a.eval y = v) {w' : World} (hr : (Instr.storeAt t u v).run P w = .ok () w') {K : Act → World → Prop} (h : K a w') : wpOp P ops Q j K a w :=
  wpOp_skip ho hg (by unfold execOp; rw [hop]; dsimp only; rw [hx, hy]; exact run_u hr) (by rw [hd]; exact h)
end
def edgeC (i1 i2 : Nat) : Array Value := #[.int .i64 (i1 : Int), .int .i64 (i2 : Int), .int .i64 1]
theorem infoEdge : (Tryz.prog.info? 51).map (fun i => (i.zero, i.size, i.bytes)) = some (some (.agg #[.int .i64 0, .int .i64 0, .int .i64 0]), 3, 24) := by kernel_rfl
theorem buE (x y z : Int) (w : World) : (Instr.build 51 #[(0, .int .i64 x), (1, .int .i64 y), (2, .int .i64 z)]).run Tryz.prog w = .ok (.agg #[.int .i64 x, .int .i64 y, .int .i64 z]) w := by kernel_rfl
theorem bsE (x y z : Int) (w : World) : (Instr.buildSlice 23 1 #[(0, .agg #[.int .i64 x, .int .i64 y, .int .i64 z])]).run Tryz.prog w = .ok (.slice (some ⟨w.heap.size, 0, none⟩) 1 1) (w.alloc (.cells #[.int .i64 x, .int .i64 y, .int .i64 z] 51 (0, 0))) := by kernel_rfl
theorem fG2 (o : Nat) (w : World) : (Instr.fieldAt 25 (.pointer (some ⟨o, 0, none⟩)) 2).run Tryz.prog w = .ok (.pointer (some ⟨o, 2, none⟩)) w := by kernel_rfl
theorem fP1 (o : Nat) (w : World) : (Instr.fieldAt 31 (.pointer (some ⟨o, 0, none⟩)) 1).run Tryz.prog w = .ok (.pointer (some ⟨o, 1, none⟩)) w := by kernel_rfl
theorem fP2 (o : Nat) (w : World) : (Instr.fieldAt 31 (.pointer (some ⟨o, 0, none⟩)) 2).run Tryz.prog w = .ok (.pointer (some ⟨o, 2, none⟩)) w := by kernel_rfl
theorem fL0 (o c : Nat) (w : World) : (Instr.fieldAt 49 (.pointer (some ⟨o, c, none⟩)) 0).run Tryz.prog w = .ok (.pointer (some ⟨o, c, none⟩)) w := by kernel_rfl
theorem fL1 (o c : Nat) (w : World) : (Instr.fieldAt 49 (.pointer (some ⟨o, c, none⟩)) 1).run Tryz.prog w = .ok (.pointer (some ⟨o, c + 2, none⟩)) w := by kernel_rfl
theorem ldE {w : World} {b c : Nat} {v : Value} (h : w.cell? ⟨b, c, none⟩ = some v) : (Instr.loadAt 23 (.pointer (some ⟨b, c, none⟩))).run Tryz.prog w = .ok v w := by go_simp
theorem ldPs {w : World} {b c : Nat} {v : Value} (h : w.cell? ⟨b, c, none⟩ = some v) : (Instr.loadAt 28 (.pointer (some ⟨b, c, none⟩))).run Tryz.prog w = .ok v w := by go_simp
theorem ldLs {w : World} {b c : Nat} {v : Value} (h : w.cell? ⟨b, c, none⟩ = some v) : (Instr.loadAt 29 (.pointer (some ⟨b, c, none⟩))).run Tryz.prog w = .ok v w := by go_simp
theorem ldPair {w : World} {b c : Nat} {x : Int × Int} (h0 : w.cell? ⟨b, c, none⟩ = some (.int .i64 x.1)) (h1 : w.cell? ⟨b, c + 1, none⟩ = some (.int .i64 x.2)) : (Instr.loadAt 47 (.pointer (some ⟨b, c, none⟩))).run Tryz.prog w = .ok (.agg #[.int .i64 x.1, .int .i64 x.2]) w :=
  run_loadAt_mid w b c 47 [.int .i64 x.1, .int .i64 x.2] _ (fun j v hv => by
    rcases j with _ | _ | j
    · cases hv; exact h0
    · cases hv; exact h1
    · simp at hv) Tryz.underlying47 rfl (by rw [show (Tryz.prog.info? 47).map (·.size) = some 2 from by kernel_rfl]; rfl)
theorem ixL {gL n cap k : Nat} (hk : k < n) (w : World) : (Instr.indexAt 29 (.slice (some ⟨gL, 0, none⟩) n cap) (.int .i64 (k : Int))).run Tryz.prog w = .ok (.pointer (some ⟨gL, k * 4, none⟩)) w := by
  have h0 : (k : Int) < (n : Int) := by omega
  go_simp
theorem stE {w : World} {b c : Nat} {u : Value} (a : Option Addr) (m k : Nat) (h : w.cell? ⟨b, c, none⟩ = some u) (hf : w.frozen? ⟨b, c, none⟩ = false) : (Instr.storeAt 23 (.pointer (some ⟨b, c, none⟩)) (.slice a m k)).run Tryz.prog w = .ok () (w.setCell ⟨b, c, none⟩ (.slice a m k)) := by go_simp
theorem cfPlace (x y : Value) (w : World) : (callFunc 16 #[x, y]).run Tryz.prog w = .ok (.enter 16 #[x, y]) w := by kernel_rfl
noncomputable def ops_asR : Array Oper := (Tryz.f9.body.bind (regionOf 9)).getD #[]
theorem putAll_asR (f : Nat → Value) (a : Act) : putAll ops_asR f 24 a = ((((((((((((((((((((((((a.put (some 29) (f 0)).put (some 30) (f 1)).put (some 31) (f 2)).put (some 32) (f 3)).put (some 33) (f 4)).put (some 34) (f 5)).put (some 35) (f 6)).put (some 36) (f 7)).put (some 37) (f 8)).put (some 38) (f 9)).put (some 39) (f 10)).put (some 40) (f 11)).put (some 41) (f 12)).put (some 42) (f 13)).put (some 43) (f 14)).put (some 44) (f 15)).put (some 45) (f 16)).put (some 46) (f 17)).put (some 47) (f 18)).put (some 48) (f 19)).put (some 49) (f 20)).put (some 50) (f 21)).put (some 51) (f 22)).put (some 52) (f 23)) := by kernel_rfl
def AsM (w0 : World) (base : Nat) (ev : Value) (n : Nat) (xs : List Value) (v : Value) (w : World) : Prop := ∃ g cap, v = .slice (some ⟨g, 0, none⟩) (n + 1) cap ∧ w.ownsRow base 51 3 v (n + 1) xs ∧ (ev.ownBlock = some g ∨ w0.heap.size ≤ g) ∧ Keep (fun b => ev.ownBlock = some b) w0 w
set_option maxHeartbeats 1000000 in
set_option maxRecDepth 20000 in
theorem asR_region {id : Nat} {w0 wb : World} {a0 : Act} {Q : Exit → Act → World → Prop} {o s gL M cap n k i1 i2 : Nat} {xv ev nv : Value} {P : List (Int × Int)} {L : List Lnk} {l : Lnk} {xs : List Value}
    (hsz : a0.tmps.size = 54) (h1 : a0.eval (.tmp 1) = .pointer (some ⟨s, 0, none⟩)) (h3 : a0.eval (.tmp 3) = .pointer (some ⟨o, 0, none⟩)) (h5 : a0.eval (.tmp 5) = .int .i64 (k : Int))
    (hp : PBlk w0 s nv (.slice (some ⟨gL, 0, none⟩) M cap)) (ho : w0.heap[o]? = some (.cells #[.bool false, xv, ev] 25 (0, 0))) (hnr : PRow w0 nv P) (hPl : P.length ≤ 1000) (hl : LRow w0 gL L) (hlk : L[k]? = some l) (hkM : k < M)
    (hU : l.1 ∈ P) (hV : l.2 ∈ P) (hi1 : P.idxOf l.1 = i1) (hi2 : P.idxOf l.2 = i2)
    (hown : w0.ownsRow wb.heap.size 51 3 ev n xs) (hn : n ≤ 100000) (hkb : Keep (fun b => b = o) wb w0) (hoe : ev.ownBlock ≠ some o)
    (hQ : ∀ f w v, AsM w0 wb.heap.size ev n (xs ++ (edgeC i1 i2).toList) v w → Q .normal (putAll ops_asR f 24 a0) (w.setCell ⟨o, 2, none⟩ v)) :
    (Code.region id ops_asR true).wp Tryz.prog Q a0 w0 := by
  generalize hops : ops_asR = ops at *
  conv at hops =>
    lhs
    whnf
  subst hops
  refine wp_region_M (by kernel_rfl) [.eq (.pointer (some ⟨o, 2, none⟩)), .eq (ev), .eq (.pointer (some ⟨s, 1, none⟩)), .eq (nv), .eq (.pointer (some ⟨s, 2, none⟩)), .eq (.slice (some ⟨gL, 0, none⟩) M cap), .eq (.int .i64 (k : Int)), .eq (.pointer (some ⟨gL, k * 4, none⟩)), .eq (.pointer (some ⟨gL, k * 4, none⟩)), .eq (.agg #[.int .i64 l.1.1, .int .i64 l.1.2]), .eq (.int .i64 (i1 : Int)), .eq (.pointer (some ⟨s, 1, none⟩)), .eq (nv), .eq (.pointer (some ⟨s, 2, none⟩)), .eq (.slice (some ⟨gL, 0, none⟩) M cap), .eq (.int .i64 (k : Int)), .eq (.pointer (some ⟨gL, k * 4, none⟩)), .eq (.pointer (some ⟨gL, k * 4 + 2, none⟩)), .eq (.agg #[.int .i64 l.2.1, .int .i64 l.2.2]), .eq (.int .i64 (i2 : Int)), .eq (.agg (edgeC i1 i2)), .blk (edgeC i1 i2) 51, .any, .eq (.pointer (some ⟨o, 2, none⟩))] 22 24 (by decide) (by kernel_rfl) (AsM w0 wb.heap.size ev n (xs ++ (edgeC i1 i2).toList)) (by rw [hsz]; kernel_rfl) (by kernel_rfl) (by kernel_rfl) ?_ ?_ ?_ ?_
  · intro j hj a w hk hs hv
    replace hs : ∀ t, isDst _ t = false → a.eval (.tmp t) = a0.eval (.tmp t) := hs
    obtain ⟨r, rfl⟩ : ∃ r, r = j := ⟨_, rfl⟩
    match r, hj, hv with
    | 0, _, hv =>
      have e3 := (hs 3 (by kernel_rfl)).trans h3
      exact OwesM.faddr rfl rfl rfl e3 (fG2 o w) rfl
    | 1, _, hv =>
      have e29 : a.eval (.tmp 29) = .pointer (some ⟨o, 2, none⟩) := hv 0 (of_decide_eq_true (by kernel_rfl))
      exact OwesM.load rfl rfl rfl e29 (ldE (by rw [cell_of (hk.get ho (fun h => h))]; rfl)) rfl
    | 2, _, hv =>
      have e1 := (hs 1 (by kernel_rfl)).trans h1
      exact OwesM.faddr rfl rfl rfl e1 (fP1 s w) rfl
    | 3, _, hv =>
      have e31 : a.eval (.tmp 31) = .pointer (some ⟨s, 1, none⟩) := hv 2 (of_decide_eq_true (by kernel_rfl))
      exact OwesM.load rfl rfl rfl e31 (ldPs (hp.keep hk (fun h => h)).cells.2.1) rfl
    | 4, _, hv =>
      have e1 := (hs 1 (by kernel_rfl)).trans h1
      exact OwesM.faddr rfl rfl rfl e1 (fP2 s w) rfl
    | 5, _, hv =>
      have e33 : a.eval (.tmp 33) = .pointer (some ⟨s, 2, none⟩) := hv 4 (of_decide_eq_true (by kernel_rfl))
      exact OwesM.load rfl rfl rfl e33 (ldLs (hp.keep hk (fun h => h)).cells.2.2.1) rfl
    | 6, _, hv =>
      have e5 := (hs 5 (by kernel_rfl)).trans h5
      exact OwesM.move rfl rfl rfl e5 rfl
    | 7, _, hv =>
      have e34 : a.eval (.tmp 34) = .slice (some ⟨gL, 0, none⟩) M cap := hv 5 (of_decide_eq_true (by kernel_rfl))
      have e35 : a.eval (.tmp 35) = .int .i64 (k : Int) := hv 6 (of_decide_eq_true (by kernel_rfl))
      exact OwesM.iaddr rfl rfl rfl e34 e35 (ixL hkM w) rfl
    | 8, _, hv =>
      have e36 : a.eval (.tmp 36) = .pointer (some ⟨gL, k * 4, none⟩) := hv 7 (of_decide_eq_true (by kernel_rfl))
      exact OwesM.faddr rfl rfl rfl e36 (fL0 gL (k * 4) w) rfl
    | 9, _, hv =>
      have e37 : a.eval (.tmp 37) = .pointer (some ⟨gL, k * 4, none⟩) := hv 8 (of_decide_eq_true (by kernel_rfl))
      exact OwesM.load rfl rfl rfl e37 (ldPair ((hl.keep hk (fun h => h)).cells hlk rfl).1.1 ((hl.keep hk (fun h => h)).cells hlk rfl).1.2.1) rfl
    | 10, _, hv =>
      have e32 : a.eval (.tmp 32) = nv := hv 3 (of_decide_eq_true (by kernel_rfl))
      have e38 : a.eval (.tmp 38) = .agg #[.int .i64 l.1.1, .int .i64 l.1.2] := hv 9 (of_decide_eq_true (by kernel_rfl))
      refine OwesM.fn rfl rfl rfl rfl (args := #[nv, .agg #[.int .i64 l.1.1, .int .i64 l.1.2]]) (by simp only [List.map_toArray, List.map_cons, List.map_nil, e32, e38]) (cfPlace _ _ w) ((place_spec (hnr.keepF hk) hPl l.1 hU).mono ?_)
      rintro e w' ⟨rfl, hk'⟩
      exact ⟨_, rfl, congrArg (fun x : Nat => Value.int .i64 (x : Int)) hi1, hk'⟩
    | 11, _, hv =>
      have e1 := (hs 1 (by kernel_rfl)).trans h1
      exact OwesM.faddr rfl rfl rfl e1 (fP1 s w) rfl
    | 12, _, hv =>
      have e40 : a.eval (.tmp 40) = .pointer (some ⟨s, 1, none⟩) := hv 11 (of_decide_eq_true (by kernel_rfl))
      exact OwesM.load rfl rfl rfl e40 (ldPs (hp.keep hk (fun h => h)).cells.2.1) rfl
    | 13, _, hv =>
      have e1 := (hs 1 (by kernel_rfl)).trans h1
      exact OwesM.faddr rfl rfl rfl e1 (fP2 s w) rfl
    | 14, _, hv =>
      have e42 : a.eval (.tmp 42) = .pointer (some ⟨s, 2, none⟩) := hv 13 (of_decide_eq_true (by kernel_rfl))
      exact OwesM.load rfl rfl rfl e42 (ldLs (hp.keep hk (fun h => h)).cells.2.2.1) rfl
    | 15, _, hv =>
      have e5 := (hs 5 (by kernel_rfl)).trans h5
      exact OwesM.move rfl rfl rfl e5 rfl
    | 16, _, hv =>
      have e43 : a.eval (.tmp 43) = .slice (some ⟨gL, 0, none⟩) M cap := hv 14 (of_decide_eq_true (by kernel_rfl))
      have e44 : a.eval (.tmp 44) = .int .i64 (k : Int) := hv 15 (of_decide_eq_true (by kernel_rfl))
      exact OwesM.iaddr rfl rfl rfl e43 e44 (ixL hkM w) rfl
    | 17, _, hv =>
      have e45 : a.eval (.tmp 45) = .pointer (some ⟨gL, k * 4, none⟩) := hv 16 (of_decide_eq_true (by kernel_rfl))
      exact OwesM.faddr rfl rfl rfl e45 (fL1 gL (k * 4) w) rfl
    | 18, _, hv =>
      have e46 : a.eval (.tmp 46) = .pointer (some ⟨gL, k * 4 + 2, none⟩) := hv 17 (of_decide_eq_true (by kernel_rfl))
      exact OwesM.load rfl rfl rfl e46 (ldPair ((hl.keep hk (fun h => h)).cells hlk rfl).1.2.2.1 ((hl.keep hk (fun h => h)).cells hlk rfl).1.2.2.2) rfl
    | 19, _, hv =>
      have e41 : a.eval (.tmp 41) = nv := hv 12 (of_decide_eq_true (by kernel_rfl))
      have e47 : a.eval (.tmp 47) = .agg #[.int .i64 l.2.1, .int .i64 l.2.2] := hv 18 (of_decide_eq_true (by kernel_rfl))
      refine OwesM.fn rfl rfl rfl rfl (args := #[nv, .agg #[.int .i64 l.2.1, .int .i64 l.2.2]]) (by simp only [List.map_toArray, List.map_cons, List.map_nil, e41, e47]) (cfPlace _ _ w) ((place_spec (hnr.keepF hk) hPl l.2 hV).mono ?_)
      rintro e w' ⟨rfl, hk'⟩
      exact ⟨_, rfl, congrArg (fun x : Nat => Value.int .i64 (x : Int)) hi2, hk'⟩
    | 20, _, hv =>
      have e39 : a.eval (.tmp 39) = .int .i64 (i1 : Int) := hv 10 (of_decide_eq_true (by kernel_rfl))
      have e48 : a.eval (.tmp 48) = .int .i64 (i2 : Int) := hv 19 (of_decide_eq_true (by kernel_rfl))
      exact OwesM.build rfl rfl rfl (by simp only [List.map_toArray, List.map_cons, List.map_nil, e39, e48]; rfl) (buE _ _ _ w) rfl
    | 21, _, hv =>
      have e49 : a.eval (.tmp 49) = .agg (edgeC i1 i2) := hv 20 (of_decide_eq_true (by kernel_rfl))
      exact OwesM.bslice rfl rfl rfl (by simp only [List.map_toArray, List.map_cons, List.map_nil, e49]; rfl) (bsE _ _ _ w) ((Keep.refl _ w).alloc _) ⟨_, rfl, heap_new w _⟩
    | r + 22, hj, _ => exact absurd hj (by omega)
  · intro j hj hj' a w hs
    obtain rfl : j = 23 := by omega
    have e3 : a.eval (.tmp 3) = .pointer (some ⟨o, 0, none⟩) := (show a.eval (.tmp 3) = a0.eval (.tmp 3) from hs 3 (by kernel_rfl)).trans h3
    exact wpOp_faddr rfl rfl rfl e3 (fG2 o w) ⟨_, rfl, rfl, rfl⟩
  · intro a w hk hs hv
    have e30 : a.eval (.tmp 30) = ev := hv 1 (of_decide_eq_true (by kernel_rfl))
    obtain ⟨b, e50, hb⟩ : ∃ b, a.eval (.tmp 50) = .slice (some ⟨b, 0, none⟩) 1 1 ∧ w.heap[b]? = some (.cells (edgeC i1 i2) 51 (0, 0)) := hv 21 (of_decide_eq_true (by kernel_rfl))
    refine wpOp_push rfl rfl rfl hkb hk infoEdge Tryz.underlying23 rfl (by decide) ev n xs e30 hown ⟨b, 0, none⟩ 1 1 (edgeC i1 i2).toList e50 rfl (World.news_of_block hb) (by simp [edgeC, Value.oneCell']) (by decide) (by unfold maxLen; omega) (by omega) ?_
    intro g cap' w' q2 q6 q7
    refine ⟨_, rfl, g, cap', rfl, q2, ?_, ?_⟩
    · rcases q7 with q7 | q7
      · exact .inl q7
      · exact .inr (by rw [q7]; exact hk.size)
    · exact (hk.mono (fun _ _ h => h.elim)).trans q6 (fun _ _ h => h)
  · intro f w hM hv
    obtain ⟨g, cap', hf, q2, q3, q4⟩ := hM
    have ho' := q4.get ho hoe
    refine wpOp_store rfl rfl rfl rfl (u := .pointer (some ⟨o, 2, none⟩)) (v := f 22) ?_ ?_ (w' := w.setCell ⟨o, 2, none⟩ (f 22)) ?_ ?_
    · exact (putAll_ev (m := 54) (by kernel_rfl) f a0 (by omega) (j := 23) (by decide) (by kernel_rfl)).trans (hv 23 (by decide) (by decide))
    · exact putAll_ev (m := 54) (by kernel_rfl) f a0 (by omega) (j := 22) (by decide) (by kernel_rfl)
    · rw [hf]; exact stE _ _ _ (by rw [cell_of ho']; rfl) (free_of ho' 2)
    · exact hQ f w (f 22) ⟨g, cap', hf, q2, q3, q4⟩
end Go.Proofs.YtdaccgelmcmfjaaGreatDoor
end
/- laws.asGraph: a product as a graph. -/
section
namespace Go.Proofs.YtdaccgelmcmfjaaGreatDoor
open Go.RowKit Go.V
theorem Row.slc' {B : Nat} {w : World} {v : Value} {us : List Value} (h : Row B w v us) : ∃ a n c, v = .slice a n c := by
  rcases h with ⟨rfl, _⟩ | ⟨b, off, cap, rfl, _⟩
  · exact ⟨_, _, _, rfl⟩
  · exact ⟨_, _, _, rfl⟩
theorem PRow.keepS {S : Nat → Prop} {w w' : World} {g n cap : Nat} {P : List (Int × Int)} (h : PRow w (.slice (some ⟨g, 0, none⟩) n cap) P) (hk : Keep S w w') (hn : ¬ S g) : PRow w' (.slice (some ⟨g, 0, none⟩) n cap) P := by
  obtain ⟨g', cap', e, h1, h2⟩ := h
  cases e
  exact ⟨g, cap, rfl, h1.keep hk hn, Nat.lt_of_lt_of_le h2 hk.size⟩
theorem infoI : (Tryz.prog.info? 3).map (fun i => (i.zero, i.size, i.bytes)) = some (some (.int .i64 0), 1, 8) := by kernel_rfl
def GBlk (w : World) (o : Nat) (nv ev : Value) : Prop := w.heap[o]? = some (.cells #[.bool false, nv, ev] 25 (0, 0))
theorem GBlk.keep {S : Nat → Prop} {w w' : World} {o : Nat} {nv ev : Value} (h : GBlk w o nv ev) (hk : Keep S w w') (hn : ¬ S o) : GBlk w' o nv ev := hk.get h hn
theorem GBlk.cells {w : World} {o : Nat} {nv ev : Value} (h : GBlk w o nv ev) : w.cell? ⟨o, 0, none⟩ = some (.bool false) ∧ w.cell? ⟨o, 1, none⟩ = some nv ∧ w.cell? ⟨o, 2, none⟩ = some ev ∧ ∀ i, w.frozen? ⟨o, i, none⟩ = false := three h
theorem GBlk.set0 {w : World} {o : Nat} {nv ev : Value} (h : GBlk w o nv ev) : GBlk (w.setCell ⟨o, 0, none⟩ (.bool false)) o nv ev := by
  unfold GBlk
  rw [heapV_setCell h]; rfl
theorem GBlk.set1 {w : World} {o : Nat} {nv ev : Value} (h : GBlk w o nv ev) (u : Value) : GBlk (w.setCell ⟨o, 1, none⟩ u) o u ev := three_set1 h u
theorem GBlk.set2 {w : World} {o : Nat} {nv ev : Value} (h : GBlk w o nv ev) (u : Value) : GBlk (w.setCell ⟨o, 2, none⟩ u) o nv u := three_set2 h u
def upN (k : Nat) : List Value := ints ((List.range k).map fun (i : Nat) => (i : Int))
theorem upN_step (k : Nat) : upN (k + 1) = upN k ++ [.int .i64 (k : Int)] := by
  unfold upN ints
  rw [List.range_succ, List.map_append, List.map_append]
  rfl
theorem upN_places (P : List (Int × Int)) : upN P.length = ints (placesOf P) := rfl
def eC (P : List (Int × Int)) (l : Lnk) : List Value := (edgeC (P.idxOf l.1) (P.idxOf l.2)).toList
theorem eC_edges (P : List (Int × Int)) (L : List Lnk) : L.flatMap (eC P) = edgeCells (prodG P L).edges := by
  unfold edgeCells prodG
  rw [List.flatMap_map]
  rfl
theorem row3_of_owns {B n : Nat} {w : World} {v : Value} {es : List (Int × Int × Int)} (h : w.ownsRow B 51 3 v n (edgeCells es)) (hn : es.length = n) : Row3 w.heap.size w v es := by
  rcases owns_row h with ⟨rfl, h0⟩ | ⟨g, cap, rfl, _, hg, hc, _, h1, h2⟩
  · exact .inl ⟨rfl, List.length_eq_zero_iff.1 (by omega)⟩
  · exact .inr ⟨g, 0, cap, by rw [hn], hg, hc, by omega, h2⟩
theorem h3box (w : World) (x y z : Obj) : ((((w.alloc x).alloc y).alloc z).heap[w.heap.size]? = some x ∧ (((w.alloc x).alloc y).alloc z).heap[w.heap.size + 1]? = some y ∧ (((w.alloc x).alloc y).alloc z).heap[w.heap.size + 2]? = some z) ∧ Keep (fun _ => False) w (((w.alloc x).alloc y).alloc z) ∧ (((w.alloc x).alloc y).alloc z).heap.size = w.heap.size + 3 :=
  ⟨⟨(heap_old (by simp <;> omega)).trans ((heap_old (by simp)).trans (heap_new w x)), (heap_old (by simp)).trans (new_at (by simp) y), new_at (by simp) z⟩, (((Keep.refl _ w).alloc x).alloc y).alloc z, by simp⟩
def AsPost (w : World) (P : List (Int × Int)) (L : List Lnk) (e : Ending) (w' : World) : Prop := ∃ gv, e = .returned gv ∧ GraphAt w'.heap.size w' gv (prodG P L) ∧ Keep (fun _ => False) w w'
set_option maxHeartbeats 4000000 in
set_option maxRecDepth 20000 in
theorem asGraph_spec {w : World} {nv lv : Value} {P : List (Int × Int)} {L : List Lnk} (h1 : PRow w nv P) (h2 : LVal w lv L) (hP : P.length ≤ 1000) (hL : L.length ≤ 100000) (hm : ∀ l ∈ L, l.1 ∈ P ∧ l.2 ∈ P) :
    Calls Tryz.prog 9 #[.agg #[.bool false, nv, lv]] w (AsPost w P L) := by
  have h1' := h1
  have h2' := h2
  obtain ⟨gP, cP, rfl, -, hgP⟩ := h1'
  obtain ⟨aL, cL, rfl⟩ := h2'.form
  obtain ⟨⟨hx0, hx1, hx2⟩, hkx, hsx⟩ := h3box w (.cells #[.bool false, .slice (some ⟨gP, 0, none⟩) P.length cP, .slice aL L.length cL] 31 (0, 0)) (.cells #[.bool false, .slice none 0 0, .slice none 0 0] 25 (0, 0)) (.cells #[.bool false, .slice none 0 0, .slice none 0 0] 25 (0, 0))
  have H1 := Lib.hid h1
  have H2 := Lib.hid h2
  have HM := Lib.hid hm
  have HX0 := Lib.hid hx0
  have HX1 := Lib.hid hx1
  have HX2 := Lib.hid hx2
  have HKX := Lib.hid hkx
  have HSX := Lib.hid hsx
  have hlen : ∀ j, j < L.length → ∃ l, L[j]? = some l := fun j hj => ⟨_, List.getElem?_eq_getElem hj⟩
  have HLEN := Lib.hid hlen
  clear h1 h2 hm h2' hx0 hx1 hx2 hkx hsx hlen
  generalize hN : P.length = N at *
  generalize hM : L.length = M at *
  have HN := Lib.hid hN
  have HMM := Lib.hid hM
  clear hN hM
  go_enter Tryz.func9, Tryz.ntmps9
  go_wp2_with fail
  have hsx := HSX.out
  have hx0 : PBlk (((w.alloc (.cells #[.bool false, .slice (some ⟨gP, 0, none⟩) N cP, .slice aL M cL] 31 (0, 0))).alloc (.cells #[.bool false, .slice none 0 0, .slice none 0 0] 25 (0, 0))).alloc (.cells #[.bool false, .slice none 0 0, .slice none 0 0] 25 (0, 0))) w.heap.size (.slice (some ⟨gP, 0, none⟩) N cP) (.slice aL M cL) := HX0.out
  have hx1 : GBlk (((w.alloc (.cells #[.bool false, .slice (some ⟨gP, 0, none⟩) N cP, .slice aL M cL] 31 (0, 0))).alloc (.cells #[.bool false, .slice none 0 0, .slice none 0 0] 25 (0, 0))).alloc (.cells #[.bool false, .slice none 0 0, .slice none 0 0] 25 (0, 0))) (w.heap.size + 1) (.slice none 0 0) (.slice none 0 0) := HX1.out
  have hx2 : GBlk (((w.alloc (.cells #[.bool false, .slice (some ⟨gP, 0, none⟩) N cP, .slice aL M cL] 31 (0, 0))).alloc (.cells #[.bool false, .slice none 0 0, .slice none 0 0] 25 (0, 0))).alloc (.cells #[.bool false, .slice none 0 0, .slice none 0 0] 25 (0, 0))) (w.heap.size + 1 + 1) (.slice none 0 0) (.slice none 0 0) := HX2.out
  have HPB := Lib.hid hx0
  have HRB := Lib.hid hx1
  have HGB := Lib.hid hx2
  clear hx0 hx1 hx2 HX0 HX1 HX2 HSX
  generalize (((w.alloc (.cells #[.bool false, .slice (some ⟨gP, 0, none⟩) N cP, .slice aL M cL] 31 (0, 0))).alloc (.cells #[.bool false, .slice none 0 0, .slice none 0 0] 25 (0, 0))).alloc (.cells #[.bool false, .slice none 0 0, .slice none 0 0] 25 (0, 0))) = W3 at *
  generalize hs0 : w.heap.size = s0 at *
  go_loopw [4] (fun q wr => ∃ (k : Nat) (xv : Value), q = .int .i64 (k : Int) ∧ k ≤ N ∧ GBlk wr (s0 + 1 + 1) xv (.slice none 0 0) ∧ wr.ownsRow W3.heap.size 3 1 xv k (upN k) ∧ Keep (fun b => b = s0 + 1 + 1) W3 wr) (fun q _ => N - (intOf q).toNat)
  case atStart => exact ⟨0, _, rfl, Nat.zero_le _, HGB.out, World.ownsRow_nil _ _ _ _, Keep.refl _ _⟩
  case round =>
    rename World => wr
    obtain ⟨k, xv, rfl, hkN, hg, hrow, hk⟩ := hrel
    have HG := Lib.hid hg
    have HROW := Lib.hid hrow
    have HK := Lib.hid hk
    obtain ⟨_, c1, _, f⟩ := hg.cells
    have f1 := f 1
    obtain ⟨_, p1, p2, _⟩ := (HPB.out.keep hk (show ¬ s0 = s0 + 1 + 1 by omega)).cells
    clear hg hrow hk f
    by_cases hlt : k < N
    · go_wp2_with (first
        | (at_builtin; refine wpList_push2 rfl rfl HK.out (by repeat first | exact Keep.refl _ _ | assumption | apply Keep.alloc | apply Keep.drewN | apply Keep.drew | (refine Keep.setCell ?_ _ (fun h => absurd h (Nat.lt_irrefl _)))) infoI Tryz.underlying22 rfl (by decide) _ k _ rfl HROW.out _ 1 1 [.int .i64 (k : Int)] rfl rfl (World.news_of_block (heap_new wr _)) (by simp [Value.oneCell']) (by decide) (by unfold maxLen; omega) (by omega) ?_; intro g2 cap2 w4 hr4 hk4 hg4 hl4 hkk4; have hg7 := (HG.out.keep ((Keep.refl (fun _ => False) wr).alloc _) (fun h => h)).keep hkk4 (fun e => by have := (HROW.out.lt _ e).1; omega); obtain ⟨_, c7, _, f7⟩ := hg7.cells; have f71 := f7 1; have HR4 := Lib.hid hr4; have HK4 := Lib.hid hk4; have HG7 := Lib.hid hg7; clear hr4 hk4 hkk4 hg7 f7))
      have hks : Keep (fun b => b = s0 + 1 + 1) w4 (w4.setCell ⟨s0 + 1 + 1, 1, none⟩ (.slice (some ⟨g2, 0, none⟩) (k + 1) cap2)) := (Keep.refl (fun b => b = s0 + 1 + 1) w4).setCell (a := ⟨s0 + 1 + 1, 1, none⟩) _ (fun _ => rfl)
      go_roundw
      case rel =>
        refine ⟨k + 1, _, by go_num, by omega, HG7.out.set1 _, ?_, HK4.out.trans hks (fun _ _ h => h)⟩
        rw [upN_step]
        exact ownsRow_keep' HR4.out hks (fun g hg e => by cases hg; have e : g2 = s0 + 1 + 1 := e; omega)
      case measure => simp [intOf]; omega
    · obtain rfl : N = k := by omega
      have hk3 : Keep (fun b => b = s0 + 1 + 1) w wr := (HKX.out.mono (fun _ _ h => h.elim)).trans HK.out (fun b hb h => h)
      have hpb := HPB.out.keep HK.out (show ¬ s0 = s0 + 1 + 1 by omega)
      have hrb := HRB.out.keep HK.out (show ¬ s0 + 1 = s0 + 1 + 1 by omega)
      have hzr := HK.out.size
      have HPB4 := Lib.hid hpb
      have HRB4 := Lib.hid hrb
      have HK3 := Lib.hid hk3
      clear hpb hrb hk3 HPB HRB HGB HK
      go_wp2_with fail
      clear c1 f1 p1 p2
      go_loopw [5] (fun q wx => ∃ (k : Nat) (ev : Value), q = .int .i64 (k : Int) ∧ k ≤ M ∧ GBlk wx (s0 + 1 + 1) xv ev ∧ wx.ownsRow wr.heap.size 51 3 ev k ((L.take k).flatMap (eC P)) ∧ Keep (fun b => b = s0 + 1 + 1) wr wx) (fun q _ => M - (intOf q).toNat)
      case atStart => exact ⟨0, _, rfl, Nat.zero_le _, HG.out, World.ownsRow_nil _ _ _ _, Keep.refl _ _⟩
      case round =>
        rename World => wx
        obtain ⟨k, ev, rfl, hkM, hg, hrow, hk⟩ := hrel
        have hp := HPB4.out.keep hk (show ¬ s0 = s0 + 1 + 1 by omega)
        have hkw := HK3.out.trans hk (fun b hb h => h)
        have hown := fun g (hg : ev.ownBlock = some g) => (hrow.lt g hg).1
        have HGX := Lib.hid hg
        have HRX := Lib.hid hrow
        have HKX2 := Lib.hid hk
        have HPX := Lib.hid hp
        have HKW := Lib.hid hkw
        obtain ⟨_, p1, p2, _⟩ := hp.cells
        obtain ⟨_, c1, c2, f⟩ := hg.cells
        by_cases hlt : k < M
        · obtain ⟨l, hl⟩ := HLEN.out k hlt
          rcases H2.out with ⟨_, h0⟩ | ⟨gL, cap, e, hlr⟩
          · exfalso
            have := HMM.out
            rw [h0, List.length_nil] at this
            omega
          · have ha : aL = some ⟨gL, 0, none⟩ := by cases e; rfl
            subst ha
            clear e
            have hgl : gL < s0 := by have := hlr.lt; omega
            obtain ⟨hu, hv⟩ := HM.out l (List.mem_of_getElem? hl)
            clear c1 c2 f hg hrow hk hp
            go_upto_region 9 with fail
            refine asR_region (wb := wr) (o := s0 + 1 + 1) (s := s0) (gL := gL) (M := M) (cap := cL) (n := k) (k := k) (xv := xv) (ev := ev) (P := P) (L := L) (l := l) rfl rfl rfl rfl HPX.out HGX.out (H1.out.keepS hkw (show ¬ gP = s0 + 1 + 1 by omega)) (by rw [HN.out]; exact hP) (hlr.keep hkw (show ¬ gL = s0 + 1 + 1 by omega)) hl hlt hu hv rfl rfl HRX.out (by omega) HKX2.out (fun e => by have := hown _ e; omega) ?_
            rintro f w9 v ⟨g9, cap9, rfl, a1, a2, a3⟩
            have hs9 : Keep (fun b => b = s0 + 1 + 1) w9 (w9.setCell ⟨s0 + 1 + 1, 2, none⟩ (.slice (some ⟨g9, 0, none⟩) (k + 1) cap9)) := (Keep.refl (fun b => b = s0 + 1 + 1) w9).setCell (a := ⟨s0 + 1 + 1, 2, none⟩) _ (fun _ => rfl)
            have hg9 := (HGX.out.keep a3 (fun e => by have := hown _ e; omega)).set2 (.slice (some ⟨g9, 0, none⟩) (k + 1) cap9)
            have hr9 := ownsRow_keep' a1 hs9 (fun g hg e => by
              cases hg
              have e : g9 = s0 + 1 + 1 := e
              rcases a2 with a2 | a2
              · have := hown _ a2; omega
              · have := HKX2.out.size; omega)
            have hk9 : Keep (fun b => b = s0 + 1 + 1) wr (w9.setCell ⟨s0 + 1 + 1, 2, none⟩ (.slice (some ⟨g9, 0, none⟩) (k + 1) cap9)) := (HKX2.out.trans a3 (fun b hb h => by have := hown _ h; omega)).trans hs9 (fun b hb h => h)
            have hst : (L.take k).flatMap (eC P) ++ (edgeC (P.idxOf l.1) (P.idxOf l.2)).toList = (L.take (k + 1)).flatMap (eC P) := (flat_step hl).symm
            rw [hst] at hr9
            generalize (w9.setCell ⟨s0 + 1 + 1, 2, none⟩ (.slice (some ⟨g9, 0, none⟩) (k + 1) cap9)) = wz at *
            rw [putAll_asR]
            simp only [Act.put, List.setIfInBounds_toArray, List.set_cons_zero, List.set_cons_succ]
            have HG9 := Lib.hid hg9
            have HR9 := Lib.hid hr9
            have HK9 := Lib.hid hk9
            clear hg9 hr9 hk9 hs9 hst a1 a2 a3 p1 p2 hlr hl hu hv hkw hown
            go_wp2_with fail
            go_roundw
            case rel => exact ⟨k + 1, _, by go_num, by omega, HG9.out, HR9.out, HK9.out⟩
            case measure => simp [intOf]; omega
        · obtain rfl : M = k := by omega
          have f0 := f 0
          have hrb := HRB4.out.keep hk (show ¬ s0 + 1 = s0 + 1 + 1 by omega)
          obtain ⟨_, r1, r2, fr⟩ := hrb.cells
          have fr0 := fr 0
          have fr1 := fr 1
          have fr2 := fr 2
          have hn1 := ownsRow_keep' HROW.out hk (fun g hg e => by have := (HROW.out.lt g hg).1; have e : g = s0 + 1 + 1 := e; omega)
          have HN1 := Lib.hid hn1
          have HRB5 := Lib.hid hrb
          clear hn1 hrb fr f hg hrow hk hp hkw
          obtain ⟨xa, xn, xc, rfl⟩ : ∃ a n c, xv = .slice a n c := (row_of_owns HN1.out).slc'
          obtain ⟨ea, en, ec, rfl⟩ : ∃ a n c, ev = .slice a n c := by
            rcases owns_row HRX.out with ⟨e, _⟩ | ⟨g, cap, e, _⟩
            · exact ⟨_, _, _, e⟩
            · exact ⟨_, _, _, e⟩
          go_wp2_with fail
          have hpw := ((HRB5.out.set0).set1 (.slice xa xn xc)).set2 (.slice ea en ec)
          have hkw : Keep (fun b => b = s0 + 1) wx (((wx.setCell ⟨s0 + 1, 0, none⟩ (.bool false)).setCell ⟨s0 + 1, 1, none⟩ (.slice xa xn xc)).setCell ⟨s0 + 1, 2, none⟩ (.slice ea en ec)) :=
            (((Keep.refl (fun b => b = s0 + 1) wx).setCell (a := ⟨s0 + 1, 0, none⟩) _ (fun _ => rfl)).setCell (a := ⟨s0 + 1, 1, none⟩) _ (fun _ => rfl)).setCell (a := ⟨s0 + 1, 2, none⟩) _ (fun _ => rfl)
          generalize (((wx.setCell ⟨s0 + 1, 0, none⟩ (.bool false)).setCell ⟨s0 + 1, 1, none⟩ (.slice xa xn xc)).setCell ⟨s0 + 1, 2, none⟩ (.slice ea en ec)) = wf at *
          have hn2 := ownsRow_keep' HN1.out hkw (fun g hg e => by have := (HROW.out.lt g hg).1; have e : g = s0 + 1 := e; omega)
          have he2 := ownsRow_keep' HRX.out hkw (fun g hg e => by have := hown g hg; have e : g = s0 + 1 := e; omega)
          have hrowN : Row wf.heap.size wf (.slice xa xn xc) (ints (placesOf P)) := by
            have := row_of_owns hn2
            rwa [← HN.out, upN_places] at this
          have hrowE : Row3 wf.heap.size wf (.slice ea en ec) (prodG P L).edges := by
            have := he2
            rw [← HMM.out, List.take_length, eC_edges] at this
            exact row3_of_owns this (by simp [prodG])
          have hkf : Keep (fun _ => False) w wf := (HKW.out.trans hkw (T := fun b => b = s0 + 1) (S := fun b => b = s0 + 1 + 1) (fun b hb h => by omega)).mono (fun b hb h => by omega)
          obtain ⟨y0, y1, y2, _⟩ := hpw.cells
          have HRN := Lib.hid hrowN
          have HRE := Lib.hid hrowE
          have HKF := Lib.hid hkf
          clear hn2 he2 hrowN hrowE hkf hkw hpw
          (try simp only [Exit.inBlock, Exit.then])
          refine bodyPost_ret (by simp [results, Tryz.results9, go_sem, y0, y1, y2]; try rfl) rfl ?_
          exact ⟨_, rfl, ⟨_, _, rfl, HRN.out, HRE.out⟩, HKF.out⟩
end Go.Proofs.YtdaccgelmcmfjaaGreatDoor
end
/- The plain last steps of the tensor and the strong product: bounds on the least number of colours. -/
section
namespace Go.V
section
variable {A B : List Int} {ra rb : Int → Int → Prop} {L : List Lnk} {ka kb kp : Nat}
theorem tens_le (hA : A.Nodup) (hB : B.Nodup) (sa : ∀ u v, ra u v → ra v u) (sb : ∀ u v, rb u v → rb v u) (ia : ∀ u, ¬ ra u u) (ib : ∀ u, ¬ rb u u)
    (hL : ∀ U V, (U, V) ∈ L ↔ U ∈ pairsOf A B ∧ V ∈ pairsOf A B ∧ plt U V ∧ RelK 5 ra rb U V) (ha : Chi A ra ka) (hb : Chi B rb kb) (hp : Chi (placesOf (pairsOf A B)) (adjL (pairsOf A B) L) kp) : kp ≤ ka ∧ kp ≤ kb := by
  have hn := pairsOf_nodup hA hB
  have hadj := fun (u v : Int) (hu : u ∈ placesOf (pairsOf A B)) (hv : v ∈ placesOf (pairsOf A B)) => adjL_iff (R := RelK 5 ra rb) hn (fun U V h => RelK.symm sa sb h) (fun U => RelK.irrefl ia ib U) hL hu hv
  have hm : ∀ u ∈ placesOf (pairsOf A B), (pr (pairsOf A B) u).1 ∈ A ∧ (pr (pairsOf A B) u).2 ∈ B := fun u hu => by
    obtain ⟨i, h1, rfl⟩ := mem_placesOf.1 hu
    exact mem_pairsOf.1 (pr_mem h1)
  constructor
  · exact hp.2 _ (ha.1.of_map (fun u => (pr (pairsOf A B) u).1) (fun u hu => (hm u hu).1) (fun u hu v hv huv => (show ra _ _ ∧ rb _ _ from (hadj u v hu hv).1 huv).1))
  · exact hp.2 _ (hb.1.of_map (fun u => (pr (pairsOf A B) u).2) (fun u hu => (hm u hu).2) (fun u hu v hv huv => (show ra _ _ ∧ rb _ _ from (hadj u v hu hv).1 huv).2))
theorem strong_ge (hA : A.Nodup) (hB : B.Nodup) (hA0 : A ≠ []) (hB0 : B ≠ []) (sa : ∀ u v, ra u v → ra v u) (sb : ∀ u v, rb u v → rb v u) (ia : ∀ u, ¬ ra u u) (ib : ∀ u, ¬ rb u u)
    (hL : ∀ U V, (U, V) ∈ L ↔ U ∈ pairsOf A B ∧ V ∈ pairsOf A B ∧ plt U V ∧ RelK 4 ra rb U V) (ha : Chi A ra ka) (hb : Chi B rb kb) (hp : Chi (placesOf (pairsOf A B)) (adjL (pairsOf A B) L) kp) : ka ≤ kp ∧ kb ≤ kp := by
  have hn := pairsOf_nodup hA hB
  have hadj := fun (u v : Int) (hu : u ∈ placesOf (pairsOf A B)) (hv : v ∈ placesOf (pairsOf A B)) => adjL_iff (R := RelK 4 ra rb) hn (fun U V h => RelK.symm sa sb h) (fun U => RelK.irrefl ia ib U) hL hu hv
  have hpl : ∀ x ∈ pairsOf A B, ((pairsOf A B).idxOf x : Int) ∈ placesOf (pairsOf A B) := fun x hx => mem_placesOf.2 ⟨_, List.idxOf_lt_length_iff.2 hx, rfl⟩
  constructor
  · obtain ⟨b, hb'⟩ := List.exists_mem_of_ne_nil B hB0
    have hi : ∀ a ∈ A, (a, b) ∈ pairsOf A B := fun a h => mem_pairsOf.2 ⟨h, hb'⟩
    exact ha.2 _ (hp.1.of_map (fun a => ((pairsOf A B).idxOf (a, b) : Int)) (fun a h => hpl _ (hi a h)) (fun u hu v hv huv => (hadj _ _ (hpl _ (hi u hu)) (hpl _ (hi v hv))).2 (by
      rw [pr_idx (hi u hu), pr_idx (hi v hv)]
      exact .inr (.inl ⟨huv, rfl⟩))))
  · obtain ⟨a, ha'⟩ := List.exists_mem_of_ne_nil A hA0
    have hi : ∀ b ∈ B, (a, b) ∈ pairsOf A B := fun b h => mem_pairsOf.2 ⟨ha', h⟩
    exact hb.2 _ (hp.1.of_map (fun b => ((pairsOf A B).idxOf (a, b) : Int)) (fun b h => hpl _ (hi b h)) (fun u hu v hv huv => (hadj _ _ (hpl _ (hi u hu)) (hpl _ (hi v hv))).2 (by
      rw [pr_idx (hi u hu), pr_idx (hi v hv)]
      exact .inl ⟨rfl, huv⟩)))
theorem strong_le (hA : A.Nodup) (hB : B.Nodup) (sa : ∀ u v, ra u v → ra v u) (sb : ∀ u v, rb u v → rb v u) (ia : ∀ u, ¬ ra u u) (ib : ∀ u, ¬ rb u u)
    (hL : ∀ U V, (U, V) ∈ L ↔ U ∈ pairsOf A B ∧ V ∈ pairsOf A B ∧ plt U V ∧ RelK 4 ra rb U V) (ha : Chi A ra ka) (hb : Chi B rb kb) (hp : Chi (placesOf (pairsOf A B)) (adjL (pairsOf A B) L) kp) : kp ≤ ka * kb := by
  have hn := pairsOf_nodup hA hB
  have hadj := fun (u v : Int) (hu : u ∈ placesOf (pairsOf A B)) (hv : v ∈ placesOf (pairsOf A B)) => adjL_iff (R := RelK 4 ra rb) hn (fun U V h => RelK.symm sa sb h) (fun U => RelK.irrefl ia ib U) hL hu hv
  have hm : ∀ u ∈ placesOf (pairsOf A B), (pr (pairsOf A B) u).1 ∈ A ∧ (pr (pairsOf A B) u).2 ∈ B := fun u hu => by
    obtain ⟨i, h1, rfl⟩ := mem_placesOf.1 hu
    exact mem_pairsOf.1 (pr_mem h1)
  obtain ⟨⟨ca, ca1, ca2⟩, _⟩ := ha
  obtain ⟨⟨cb, cb1, cb2⟩, _⟩ := hb
  refine hp.2 _ ⟨fun u => ca (pr (pairsOf A B) u).1 * kb + cb (pr (pairsOf A B) u).2, fun u hu => ?_, fun u hu v hv huv he => ?_⟩
  · have h1 := ca1 _ (hm u hu).1
    have h2 := cb1 _ (hm u hu).2
    have h3 : ca (pr (pairsOf A B) u).1 * kb + kb ≤ ka * kb := by
      have := Nat.mul_le_mul_right kb (Nat.succ_le_of_lt h1); rw [Nat.succ_mul] at this; exact this
    show ca (pr (pairsOf A B) u).1 * kb + cb (pr (pairsOf A B) u).2 < ka * kb
    omega
  · have hr := (hadj u v hu hv).1 huv
    have u1 := cb1 _ (hm u hu).2
    have v1 := cb1 _ (hm v hv).2
    have hu1 := hm u hu
    have hv1 := hm v hv
    have he' : ca (pr (pairsOf A B) u).1 * kb + cb (pr (pairsOf A B) u).2 = ca (pr (pairsOf A B) v).1 * kb + cb (pr (pairsOf A B) v).2 := he
    generalize pr (pairsOf A B) u = U at *
    generalize pr (pairsOf A B) v = V at *
    have e2 : cb U.2 = cb V.2 := by
      have := congrArg (· % kb) he'
      simpa [Nat.add_mod, Nat.mod_eq_of_lt u1, Nat.mod_eq_of_lt v1] using this
    have e1 : ca U.1 = ca V.1 := by
      rw [e2] at he'
      exact Nat.eq_of_mul_eq_mul_right (by omega) (Nat.add_right_cancel he')
    have hr : (U.1 = V.1 ∧ rb U.2 V.2) ∨ (ra U.1 V.1 ∧ U.2 = V.2) ∨ (ra U.1 V.1 ∧ rb U.2 V.2) := hr
    rcases hr with ⟨_, h⟩ | ⟨h, _⟩ | ⟨h, _⟩
    · exact cb2 _ hu1.2 _ hv1.2 h e2
    · exact ca2 _ hu1.1 _ hv1.1 h e1
    · exact ca2 _ hu1.1 _ hv1.1 h e1
end
end Go.V
namespace Go.Proofs.YtdaccgelmcmfjaaGreatDoor
open Go.RowKit Go.V
section
variable {ga gb : IG} {GA GB GA' GB' GP : PG} {L : List Lnk} {ka kb kp : Nat}
theorem tens_last (ra : Reads ga GA) (rb : Reads gb GB) (ra' : Reads ga GA') (rb' : Reads gb GB') (UA : UG GA) (UB : UG GB)
    (hL : ∀ U V, (U, V) ∈ L ↔ U ∈ pairsOf GA.ids GB.ids ∧ V ∈ pairsOf GA.ids GB.ids ∧ plt U V ∧ RelK 5 GA.adj GB.adj U V)
    (rp : Reads (prodG (pairsOf GA.ids GB.ids) L) GP) (ha : Chi GA'.ids GA'.adj ka) (hb : Chi GB'.ids GB'.adj kb) (hp : Chi GP.ids GP.adj kp) : kp ≤ ka ∧ kp ≤ kb := by
  refine tens_le (PG.ids_nodup UA.ok) (PG.ids_nodup UB.ok) UA.sym UB.sym UA.irr UB.irr hL (Chi.reads ra' ra ha) (Chi.reads rb' rb hb) (Chi.congr (fun u => ?_) (prodG_adj rp) hp)
  rw [rp.ids, isort_mem]
  rfl
theorem strong_last (ra : Reads ga GA) (rb : Reads gb GB) (ra' : Reads ga GA') (rb' : Reads gb GB') (UA : UG GA) (UB : UG GB) (a0 : 0 < ga.nodes.length) (b0 : 0 < gb.nodes.length)
    (hL : ∀ U V, (U, V) ∈ L ↔ U ∈ pairsOf GA.ids GB.ids ∧ V ∈ pairsOf GA.ids GB.ids ∧ plt U V ∧ RelK 4 GA.adj GB.adj U V)
    (rp : Reads (prodG (pairsOf GA.ids GB.ids) L) GP) (ha : Chi GA'.ids GA'.adj ka) (hb : Chi GB'.ids GB'.adj kb) (hp : Chi GP.ids GP.adj kp) : ka ≤ kp ∧ kb ≤ kp ∧ kp ≤ ka * kb := by
  have hp' : Chi (placesOf (pairsOf GA.ids GB.ids)) (adjL (pairsOf GA.ids GB.ids) L) kp := Chi.congr (fun u => by rw [rp.ids, isort_mem]; rfl) (prodG_adj rp) hp
  obtain ⟨h1, h2⟩ := strong_ge (PG.ids_nodup UA.ok) (PG.ids_nodup UB.ok) (reads_ne ra a0) (reads_ne rb b0) UA.sym UB.sym UA.irr UB.irr hL (Chi.reads ra' ra ha) (Chi.reads rb' rb hb) hp'
  exact ⟨h1, h2, strong_le (PG.ids_nodup UA.ok) (PG.ids_nodup UB.ok) UA.sym UB.sym UA.irr UB.irr hL (Chi.reads ra' ra ha) (Chi.reads rb' rb hb) hp'⟩
end
end Go.Proofs.YtdaccgelmcmfjaaGreatDoor
end
