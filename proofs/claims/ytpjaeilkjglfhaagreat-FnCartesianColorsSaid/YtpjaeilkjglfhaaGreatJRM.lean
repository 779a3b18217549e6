/- The drawn regions of product.Modular (written by gen_mod.py). -/
import Derived.Test.YtpjaeilkjglfhaaGreatJP1
import Derived.Test.YtpjaeilkjglfhaaGreatJP4
import Derived.Deep.CutRange
import Derived.Deep.RegionLaw
import Derived.BigQuiet
import Derived.Stop.Asserts
set_option linter.all false
section
namespace Go.Proofs.YtpjaeilkjglfhaaGreat
open Go.RowKit Go.V
def NAt (w : World) (u q : Nat) (p : Int × Int) : Prop := w.heap[u]? = some (.cells #[.int .i64 (q : Int), nodeV p.1, nodeV p.2] 146 (0, 0))
theorem NAt.keep {S : Nat → Prop} {w w' : World} {u q : Nat} {p : Int × Int} (h : NAt w u q p) (hk : Keep S w w') (hn : ¬ S u) : NAt w' u q p := hk.get h hn
theorem NAt.cells {w : World} {u q : Nat} {p : Int × Int} (h : NAt w u q p) : w.cell? ⟨u, 0, none⟩ = some (.int .i64 (q : Int)) ∧ w.cell? ⟨u, 1, none⟩ = some (nodeV p.1) ∧ w.cell? ⟨u, 2, none⟩ = some (nodeV p.2) :=
  ⟨by rw [cell_of h]; rfl, by rw [cell_of h]; rfl, by rw [cell_of h]; rfl⟩
theorem ldN {w : World} {u q : Nat} {p : Int × Int} (h : NAt w u q p) : (Instr.loadAt 146 (.pointer (some ⟨u, 0, none⟩))).run Tryz.prog w = .ok (pnA q p) w := by
  obtain ⟨c0, c1, c2⟩ := h.cells
  exact run_loadAt_mid w u 0 146 [.int .i64 (q : Int), nodeV p.1, nodeV p.2] _ (fun j v hv => by
    rcases j with _ | _ | _ | j
    · cases hv; exact c0
    · cases hv; exact c1
    · cases hv; exact c2
    · simp at hv) Tryz.underlying146 rfl (by rw [show (Tryz.prog.info? 146).map (·.size) = some 3 from by kernel_rfl]; rfl)
theorem fa1 (u : Nat) (w : World) : (Instr.fieldAt 146 (.pointer (some ⟨u, 0, none⟩)) 1).run Tryz.prog w = .ok (.pointer (some ⟨u, 1, none⟩)) w := by kernel_rfl
theorem fa2 (u : Nat) (w : World) : (Instr.fieldAt 146 (.pointer (some ⟨u, 0, none⟩)) 2).run Tryz.prog w = .ok (.pointer (some ⟨u, 2, none⟩)) w := by kernel_rfl
theorem ldF {w : World} {u c : Nat} {x : Int} (h : w.cell? ⟨u, c, none⟩ = some (nodeV x)) : (Instr.loadAt 104 (.pointer (some ⟨u, c, none⟩))).run Tryz.prog w = .ok (nodeV x) w := by
  unfold nodeV at *
  go_simp
section
variable {P : Program} {ops : Array Oper} {Q : Exit → Act → World → Prop} {L : List VG} {lo j : Nat} {a : Act} {w : World} {o : Oper}
theorem OwesG.faddr {t : TypeId} {x : Operand} {f : Nat} (ho : ops[j]? = some o) (hg : o.guard = none) (hop : o.op = .fieldAddr t x f) {u v : Value} (hx : a.eval x = u) (hr : (Instr.fieldAt t u f).run P w = .ok v w) (hV : (L.getD j .any).ok lo (cut ops j v) w) : OwesG P ops Q L lo j a w :=
  .val ho hg (by unfold execOp; rw [hop]; dsimp only; rw [hx]; exact run_v hr) hV (Keep.refl _ _)
theorem OwesG.bin {k : BinOp} {t tr : TypeId} {x y : Operand} (ho : ops[j]? = some o) (hg : o.guard = none) (hop : o.op = .binOp k t x y tr) {u u' v : Value} (hx : a.eval x = u) (hy : a.eval y = u') (hr : (do eqGuard k t x y u u'; binOp k t u u' : Sem Value).run P w = .ok v w) (hV : (L.getD j .any).ok lo (cut ops j v) w) : OwesG P ops Q L lo j a w :=
  .val ho hg (by unfold execOp; rw [hop]; dsimp only; rw [hx, hy]; exact run_v hr) hV (Keep.refl _ _)
theorem wpOp_assign {x : Operand} (ho : ops[j]? = some o) (hg : o.guard = none) (hop : o.op = .assign x) {K : Act → World → Prop} (h : K (a.put o.dst (a.eval x)) w) : wpOp P ops Q j K a w := by
  unfold wpOp
  simp only [ho, Region.wanted, hg, if_true]
  refine .inl ?_
  unfold Oper.wp execOp
  rw [hop]
  exact h
end
def EdgeIs (b : Bool) (x : Value) : Prop := (b = false ∧ x = .nilIface) ∨ (b = true ∧ ∃ y, x = .iface 441 y)
theorem neqNil {b : Bool} {x : Value} (h : EdgeIs b x) (n : Nat) (w : World) : (do eqGuard .neq 117 (.tmp n) (.const .nilIface) x .nilIface; binOp .neq 117 x .nilIface : Sem Value).run Tryz.prog w = .ok (.bool b) w := by
  rcases h with ⟨rfl, rfl⟩ | ⟨rfl, y, rfl⟩
  · kernel_rfl
  · kernel_rfl
theorem cmEdge (pb : Nat) (x y : Value) (w : World) : (callMethod (gV pb) "Edge" #[x, y]).run Tryz.prog w = .ok (.enter 332 #[uV pb, x, y]) w := by kernel_rfl
theorem nilE (pb : Nat) (w : World) : (nilAhead (Tryz.prog.types.size + Made.depth) 57 (uV pb) "Edge").run Tryz.prog w = .ok (some false) w := by kernel_rfl
noncomputable def ops_modA : Array Oper := (Tryz.f152.body.bind (regionOf 24)).getD #[]
theorem putAll_modA (f : Nat → Value) (a : Act) : putAll ops_modA f 12 a = ((((((((((((a.put (some 110) (f 0)).put (some 111) (f 1)).put (some 112) (f 2)).put (some 113) (f 3)).put (some 114) (f 4)).put (some 115) (f 5)).put (some 116) (f 6)).put (some 117) (f 7)).put (some 118) (f 8)).put (some 119) (f 9)).put (some 120) (f 10)).put (some 121) (f 11)) := by kernel_rfl
set_option maxHeartbeats 8000000 in
set_option maxRecDepth 20000 in
theorem modA_region {id : Nat} {w0 : World} {a0 : Act} {Q : Exit → Act → World → Prop} {u v q1 q2 pa : Nat} {p1 p2 : Int × Int} {bl : Bool}
    (hsz : a0.tmps.size = 150) (h1 : a0.eval (.tmp 1) = gV pa) (h20 : a0.eval (.tmp 20) = .pointer (some ⟨u, 0, none⟩)) (h23 : a0.eval (.tmp 23) = .pointer (some ⟨v, 0, none⟩))
    (hu : NAt w0 u q1 p1) (hv0 : NAt w0 v q2 p2)
    (hE : ∀ W, Keep (fun _ => False) w0 W → Calls Tryz.prog 332 #[uV pa, .int .i64 p1.1, .int .i64 p2.1] W fun e w' => ∃ x, e = .returned x ∧ EdgeIs bl x ∧ Keep (fun _ => False) W w')
    (hQ : ∀ f w, Keep (fun _ => False) w0 w → Q .normal ((putAll ops_modA f 12 a0).put (some 24) (.bool bl)) w) :
    (Code.region id ops_modA true).wp Tryz.prog Q a0 w0 := by
  generalize hops : ops_modA = ops at *
  conv at hops =>
    lhs
    whnf
  subst hops
  refine wp_region_G (by kernel_rfl) [.eq (gV pa), .eq (.pointer (some ⟨u, 1, none⟩)), .eq (nodeV p1.1), .eq (.int .i64 p1.1), .eq (.pointer (some ⟨v, 1, none⟩)), .eq (nodeV p2.1), .eq (.int .i64 p2.1), .eq (.func (.method "Edge") #[gV pa] #[]), .eq (.func (.method "Edge") #[gV pa] #[]), .eq (gV pa), .pr (EdgeIs bl), .eq (.bool bl)] 12 (by kernel_rfl) (by rw [hsz]; kernel_rfl) (by kernel_rfl) ?_ ?_
  · intro j hj a w hk hs hv
    replace hs : ∀ t, isDst _ t = false → a.eval (.tmp t) = a0.eval (.tmp t) := hs
    obtain ⟨r, rfl⟩ : ∃ r, r = j := ⟨_, rfl⟩
    match r, hj, hv with
    | 0, _, hv =>
      have e1 := (hs 1 (by kernel_rfl)).trans h1
      exact OwesG.move rfl rfl (.inl rfl) e1 rfl
    | 1, _, hv =>
      have e20 := (hs 20 (by kernel_rfl)).trans h20
      exact OwesG.faddr rfl rfl rfl e20 (fa1 u w) rfl
    | 2, _, hv =>
      have e111 : a.eval (.tmp 111) = .pointer (some ⟨u, 1, none⟩) := hv 1 (oD (by kernel_rfl))
      exact OwesG.load rfl rfl rfl e111 (ldF (hu.keep hk (fun h => h)).cells.2.1) rfl
    | 3, _, hv =>
      have e112 : a.eval (.tmp 112) = nodeV p1.1 := hv 2 (oD (by kernel_rfl))
      refine OwesG.meth rfl rfl rfl rfl e112 (args := #[]) (by simp) (cmID p1.1 w) ((ID_spec _ _).mono ?_)
      rintro e w' ⟨rfl, rfl⟩
      exact ⟨_, rfl, rfl, Keep.refl _ _⟩
    | 4, _, hv =>
      have e23 := (hs 23 (by kernel_rfl)).trans h23
      exact OwesG.faddr rfl rfl rfl e23 (fa1 v w) rfl
    | 5, _, hv =>
      have e114 : a.eval (.tmp 114) = .pointer (some ⟨v, 1, none⟩) := hv 4 (oD (by kernel_rfl))
      exact OwesG.load rfl rfl rfl e114 (ldF (hv0.keep hk (fun h => h)).cells.2.1) rfl
    | 6, _, hv =>
      have e115 : a.eval (.tmp 115) = nodeV p2.1 := hv 5 (oD (by kernel_rfl))
      refine OwesG.meth rfl rfl rfl rfl e115 (args := #[]) (by simp) (cmID p2.1 w) ((ID_spec _ _).mono ?_)
      rintro e w' ⟨rfl, rfl⟩
      exact ⟨_, rfl, rfl, Keep.refl _ _⟩
    | 7, _, hv =>
      have e110 : a.eval (.tmp 110) = gV pa := hv 0 (oD (by kernel_rfl))
      exact OwesG.mkf rfl rfl rfl e110 rfl
    | 8, _, hv =>
      have e117 : a.eval (.tmp 117) = .func (.method "Edge") #[gV pa] #[] := hv 7 (oD (by kernel_rfl))
      exact OwesG.nilc rfl rfl rfl e117 (nilE pa w) rfl
    | 9, _, hv =>
      have e110 : a.eval (.tmp 110) = gV pa := hv 0 (oD (by kernel_rfl))
      exact OwesG.move rfl rfl (.inl rfl) e110 rfl
    | 10, _, hv =>
      have e119 : a.eval (.tmp 119) = gV pa := hv 9 (oD (by kernel_rfl))
      have e113 : a.eval (.tmp 113) = .int .i64 p1.1 := hv 3 (oD (by kernel_rfl))
      have e116 : a.eval (.tmp 116) = .int .i64 p2.1 := hv 6 (oD (by kernel_rfl))
      refine OwesG.meth rfl rfl rfl rfl e119 (args := #[.int .i64 p1.1, .int .i64 p2.1]) (by simp only [List.map_toArray, List.map_cons, List.map_nil, e113, e116]) (cmEdge pa _ _ w) ((hE w hk).mono ?_)
      rintro e w' ⟨x, rfl, hx, hkx⟩
      exact ⟨_, rfl, hx, hkx⟩
    | 11, _, hv =>
      have q120 : EdgeIs bl (a.eval (.tmp 120)) := hv 10 (oD (by kernel_rfl))
      exact OwesG.bin rfl rfl rfl rfl rfl (neqNil q120 120 w) rfl
    | r + 12, hj, _ => exact absurd hj (by omega)
  · intro f w hk hv
    refine wpOp_assign rfl rfl rfl ?_
    rw [(putAll_ev (m := 150) (by kernel_rfl) f a0 (by omega) (j := 11) (by decide) (by kernel_rfl)).trans (hv 11 (by decide))]
    exact hQ f w hk
noncomputable def ops_modB : Array Oper := (Tryz.f152.body.bind (regionOf 25)).getD #[]
theorem putAll_modB (f : Nat → Value) (a : Act) : putAll ops_modB f 12 a = ((((((((((((a.put (some 122) (f 0)).put (some 123) (f 1)).put (some 124) (f 2)).put (some 125) (f 3)).put (some 126) (f 4)).put (some 127) (f 5)).put (some 128) (f 6)).put (some 129) (f 7)).put (some 130) (f 8)).put (some 131) (f 9)).put (some 132) (f 10)).put (some 133) (f 11)) := by kernel_rfl
set_option maxHeartbeats 8000000 in
set_option maxRecDepth 20000 in
theorem modB_region {id : Nat} {w0 : World} {a0 : Act} {Q : Exit → Act → World → Prop} {u v q1 q2 pa : Nat} {p1 p2 : Int × Int} {bl : Bool}
    (hsz : a0.tmps.size = 150) (h2 : a0.eval (.tmp 2) = gV pa) (h20 : a0.eval (.tmp 20) = .pointer (some ⟨u, 0, none⟩)) (h23 : a0.eval (.tmp 23) = .pointer (some ⟨v, 0, none⟩))
    (hu : NAt w0 u q1 p1) (hv0 : NAt w0 v q2 p2)
    (hE : ∀ W, Keep (fun _ => False) w0 W → Calls Tryz.prog 332 #[uV pa, .int .i64 p1.2, .int .i64 p2.2] W fun e w' => ∃ x, e = .returned x ∧ EdgeIs bl x ∧ Keep (fun _ => False) W w')
    (hQ : ∀ f w, Keep (fun _ => False) w0 w → Q .normal ((putAll ops_modB f 12 a0).put (some 25) (.bool bl)) w) :
    (Code.region id ops_modB true).wp Tryz.prog Q a0 w0 := by
  generalize hops : ops_modB = ops at *
  conv at hops =>
    lhs
    whnf
  subst hops
  refine wp_region_G (by kernel_rfl) [.eq (gV pa), .eq (.pointer (some ⟨u, 2, none⟩)), .eq (nodeV p1.2), .eq (.int .i64 p1.2), .eq (.pointer (some ⟨v, 2, none⟩)), .eq (nodeV p2.2), .eq (.int .i64 p2.2), .eq (.func (.method "Edge") #[gV pa] #[]), .eq (.func (.method "Edge") #[gV pa] #[]), .eq (gV pa), .pr (EdgeIs bl), .eq (.bool bl)] 12 (by kernel_rfl) (by rw [hsz]; kernel_rfl) (by kernel_rfl) ?_ ?_
  · intro j hj a w hk hs hv
    replace hs : ∀ t, isDst _ t = false → a.eval (.tmp t) = a0.eval (.tmp t) := hs
    obtain ⟨r, rfl⟩ : ∃ r, r = j := ⟨_, rfl⟩
    match r, hj, hv with
    | 0, _, hv =>
      have e2 := (hs 2 (by kernel_rfl)).trans h2
      exact OwesG.move rfl rfl (.inl rfl) e2 rfl
    | 1, _, hv =>
      have e20 := (hs 20 (by kernel_rfl)).trans h20
      exact OwesG.faddr rfl rfl rfl e20 (fa2 u w) rfl
    | 2, _, hv =>
      have e123 : a.eval (.tmp 123) = .pointer (some ⟨u, 2, none⟩) := hv 1 (oD (by kernel_rfl))
      exact OwesG.load rfl rfl rfl e123 (ldF (hu.keep hk (fun h => h)).cells.2.2) rfl
    | 3, _, hv =>
      have e124 : a.eval (.tmp 124) = nodeV p1.2 := hv 2 (oD (by kernel_rfl))
      refine OwesG.meth rfl rfl rfl rfl e124 (args := #[]) (by simp) (cmID p1.2 w) ((ID_spec _ _).mono ?_)
      rintro e w' ⟨rfl, rfl⟩
      exact ⟨_, rfl, rfl, Keep.refl _ _⟩
    | 4, _, hv =>
      have e23 := (hs 23 (by kernel_rfl)).trans h23
      exact OwesG.faddr rfl rfl rfl e23 (fa2 v w) rfl
    | 5, _, hv =>
      have e126 : a.eval (.tmp 126) = .pointer (some ⟨v, 2, none⟩) := hv 4 (oD (by kernel_rfl))
      exact OwesG.load rfl rfl rfl e126 (ldF (hv0.keep hk (fun h => h)).cells.2.2) rfl
    | 6, _, hv =>
      have e127 : a.eval (.tmp 127) = nodeV p2.2 := hv 5 (oD (by kernel_rfl))
      refine OwesG.meth rfl rfl rfl rfl e127 (args := #[]) (by simp) (cmID p2.2 w) ((ID_spec _ _).mono ?_)
      rintro e w' ⟨rfl, rfl⟩
      exact ⟨_, rfl, rfl, Keep.refl _ _⟩
    | 7, _, hv =>
      have e122 : a.eval (.tmp 122) = gV pa := hv 0 (oD (by kernel_rfl))
      exact OwesG.mkf rfl rfl rfl e122 rfl
    | 8, _, hv =>
      have e129 : a.eval (.tmp 129) = .func (.method "Edge") #[gV pa] #[] := hv 7 (oD (by kernel_rfl))
      exact OwesG.nilc rfl rfl rfl e129 (nilE pa w) rfl
    | 9, _, hv =>
      have e122 : a.eval (.tmp 122) = gV pa := hv 0 (oD (by kernel_rfl))
      exact OwesG.move rfl rfl (.inl rfl) e122 rfl
    | 10, _, hv =>
      have e131 : a.eval (.tmp 131) = gV pa := hv 9 (oD (by kernel_rfl))
      have e125 : a.eval (.tmp 125) = .int .i64 p1.2 := hv 3 (oD (by kernel_rfl))
      have e128 : a.eval (.tmp 128) = .int .i64 p2.2 := hv 6 (oD (by kernel_rfl))
      refine OwesG.meth rfl rfl rfl rfl e131 (args := #[.int .i64 p1.2, .int .i64 p2.2]) (by simp only [List.map_toArray, List.map_cons, List.map_nil, e125, e128]) (cmEdge pa _ _ w) ((hE w hk).mono ?_)
      rintro e w' ⟨x, rfl, hx, hkx⟩
      exact ⟨_, rfl, hx, hkx⟩
    | 11, _, hv =>
      have q132 : EdgeIs bl (a.eval (.tmp 132)) := hv 10 (oD (by kernel_rfl))
      exact OwesG.bin rfl rfl rfl rfl rfl (neqNil q132 132 w) rfl
    | r + 12, hj, _ => exact absurd hj (by omega)
  · intro f w hk hv
    refine wpOp_assign rfl rfl rfl ?_
    rw [(putAll_ev (m := 150) (by kernel_rfl) f a0 (by omega) (j := 11) (by decide) (by kernel_rfl)).trans (hv 11 (by decide))]
    exact hQ f w hk
noncomputable def ops_modS : Array Oper := (Tryz.f152.body.bind (regionOf 27)).getD #[]
theorem putAll_modS (f : Nat → Value) (a : Act) : putAll ops_modS f 10 a = ((((((((((a.put (some 137) (f 0)).put (some 138) (f 1)).put (some 139) (f 2)).put (some 140) (f 3)).put (some 141) (f 4)).put (some 142) (f 5)).put (some 143) (f 6)).put (some 144) (f 7)).put (some 145) (f 8)).put (some 146) (f 9)) := by kernel_rfl
set_option maxHeartbeats 8000000 in
set_option maxRecDepth 20000 in
theorem modS_region {id : Nat} {w0 : World} {a0 : Act} {Q : Exit → Act → World → Prop} {bb lo u v q1 q2 : Nat} {PP ns : List (Int × Int)} {p1 p2 : Int × Int} {nv ev : Value} {es : List Lnk}
    (hsz : a0.tmps.size = 150) (h0 : a0.eval (.tmp 0) = .iface 97 (.pointer (some ⟨bb, 0, none⟩))) (h20 : a0.eval (.tmp 20) = .pointer (some ⟨u, 0, none⟩)) (h23 : a0.eval (.tmp 23) = .pointer (some ⟨v, 0, none⟩))
    (hbd : Bd w0 bb lo PP nv ns ev es) (hlo : lo ≤ w0.heap.size) (hes : es.length ≤ 100000) (hu : NAt w0 u q1 p1) (hv0 : NAt w0 v q2 p2) (hi1 : PP.idxOf p1 = q1) (hi2 : PP.idxOf p2 = q2)
    (hQ : ∀ f x w, (∃ ev', Bd w bb lo PP nv ns ev' (es ++ [(p1, p2)]) ∧ (ev'.ownBlock = ev.ownBlock ∨ ∃ g, ev'.ownBlock = some g ∧ w0.heap.size ≤ g) ∧ Keep (fun b => b = bb ∨ ev.ownBlock = some b) w0 w) → Q .normal ((putAll ops_modS f 10 a0).put (some 147) x) w) :
    (Code.region id ops_modS true).wp Tryz.prog Q a0 w0 := by
  generalize hops : ops_modS = ops at *
  conv at hops =>
    lhs
    whnf
  subst hops
  have hpn1 : pnI q1 p1 = pn PP p1 := by unfold pn; rw [hi1]
  have hpn2 : pnI q2 p2 = pn PP p2 := by unfold pn; rw [hi2]
  refine wp_region_G (by kernel_rfl) [.eq (.iface 97 (.pointer (some ⟨bb, 0, none⟩))), .eq (.iface 97 (.pointer (some ⟨bb, 0, none⟩))), .eq (pnA q1 p1), .eq (pn PP p1), .eq (pnA q2 p2), .eq (pn PP p2), .eq (edgeV PP (p1, p2)), .eq (.func (.method "SetEdge") #[.iface 97 (.pointer (some ⟨bb, 0, none⟩))] #[]), .eq (.func (.method "SetEdge") #[.iface 97 (.pointer (some ⟨bb, 0, none⟩))] #[]), .eq (.iface 97 (.pointer (some ⟨bb, 0, none⟩)))] 10 (by kernel_rfl) (by rw [hsz]; kernel_rfl) (by kernel_rfl) ?_ ?_
  · intro j hj a w hk hs hv
    replace hs : ∀ t, isDst _ t = false → a.eval (.tmp t) = a0.eval (.tmp t) := hs
    obtain ⟨r, rfl⟩ : ∃ r, r = j := ⟨_, rfl⟩
    match r, hj, hv with
    | 0, _, hv =>
      have e0 := (hs 0 (by kernel_rfl)).trans h0
      exact OwesG.move rfl rfl (.inl rfl) e0 rfl
    | 1, _, hv =>
      have e0 := (hs 0 (by kernel_rfl)).trans h0
      exact OwesG.move rfl rfl (.inl rfl) e0 rfl
    | 2, _, hv =>
      have e20 := (hs 20 (by kernel_rfl)).trans h20
      exact OwesG.load rfl rfl rfl e20 (ldN (hu.keep hk (fun h => h))) rfl
    | 3, _, hv =>
      have e139 : a.eval (.tmp 139) = pnA q1 p1 := hv 2 (oD (by kernel_rfl))
      exact OwesG.mki (v := pn PP p1) rfl rfl rfl e139 (by rw [← hpn1]; exact mkiP q1 p1 w) rfl
    | 4, _, hv =>
      have e23 := (hs 23 (by kernel_rfl)).trans h23
      exact OwesG.load rfl rfl rfl e23 (ldN (hv0.keep hk (fun h => h))) rfl
    | 5, _, hv =>
      have e141 : a.eval (.tmp 141) = pnA q2 p2 := hv 4 (oD (by kernel_rfl))
      exact OwesG.mki (v := pn PP p2) rfl rfl rfl e141 (by rw [← hpn2]; exact mkiP q2 p2 w) rfl
    | 6, _, hv =>
      have e138 : a.eval (.tmp 138) = .iface 97 (.pointer (some ⟨bb, 0, none⟩)) := hv 1 (oD (by kernel_rfl))
      have e140 : a.eval (.tmp 140) = pn PP p1 := hv 3 (oD (by kernel_rfl))
      have e142 : a.eval (.tmp 142) = pn PP p2 := hv 5 (oD (by kernel_rfl))
      refine OwesG.meth rfl rfl rfl rfl e138 (args := #[pn PP p1, pn PP p2]) (by simp only [List.map_toArray, List.map_cons, List.map_nil, e140, e142]) (cmNew bb _ _ w) ((newEdge_spec _ _ _ _ _).mono ?_)
      rintro e w' ⟨rfl, rfl⟩
      exact ⟨_, rfl, rfl, Keep.refl _ _⟩
    | 7, _, hv =>
      have e137 : a.eval (.tmp 137) = .iface 97 (.pointer (some ⟨bb, 0, none⟩)) := hv 0 (oD (by kernel_rfl))
      exact OwesG.mkf rfl rfl rfl e137 rfl
    | 8, _, hv =>
      have e144 : a.eval (.tmp 144) = .func (.method "SetEdge") #[.iface 97 (.pointer (some ⟨bb, 0, none⟩))] #[] := hv 7 (oD (by kernel_rfl))
      exact OwesG.nilc rfl rfl rfl e144 (nilS bb w) rfl
    | 9, _, hv =>
      have e137 : a.eval (.tmp 137) = .iface 97 (.pointer (some ⟨bb, 0, none⟩)) := hv 0 (oD (by kernel_rfl))
      exact OwesG.move rfl rfl (.inl rfl) e137 rfl
    | r + 10, hj, _ => exact absurd hj (by omega)
  · intro f w hk hv
    refine wpOp_meth (r := .iface 97 (.pointer (some ⟨bb, 0, none⟩))) (args := #[edgeV PP (p1, p2)]) rfl rfl rfl rfl ?hr ?ha (cmSet bb _ w) ((setEdge_spec (hbd.keepF hk) (p1, p2) (Nat.le_trans hlo hk.size) hes).mono ?hc)
    case hr => exact (putAll_ev (m := 150) (by kernel_rfl) f a0 (by omega) (j := 9) (by decide) (by kernel_rfl)).trans (hv 9 (by decide))
    case ha =>
      simp only [List.map_toArray, List.map_cons, List.map_nil]
      rw [(putAll_ev (m := 150) (by kernel_rfl) f a0 (by omega) (j := 6) (by decide) (by kernel_rfl)).trans (hv 6 (by decide))]
    rintro e w' ⟨rfl, ev', r1, r2, r3⟩
    refine ⟨.tuple #[], rfl, ?_⟩
    refine hQ f (.tuple #[]) w' ⟨ev', r1, ?_, (hk.mono (fun _ _ h => h.elim)).trans r3 (fun _ _ h => h)⟩
    rcases r2 with r2 | ⟨g, r2, r4⟩
    · exact .inl r2
    · exact .inr ⟨g, r2, Nat.le_trans hk.size r4⟩
end Go.Proofs.YtpjaeilkjglfhaaGreat
end
/- product.Modular: the edges that it lays. -/
section
namespace Go.Proofs.YtpjaeilkjglfhaaGreat
open Go.RowKit Go.V
theorem Row.slc {B : Nat} {w : World} {v : Value} {us : List Value} (h : Row B w v us) : ∃ a n c, v = .slice a n c := by
  rcases h with ⟨rfl, _⟩ | ⟨b, off, cap, rfl, _⟩
  · exact ⟨_, _, _, rfl⟩
  · exact ⟨_, _, _, rfl⟩
theorem methID (x : Int) (w : World) : (method 571 439 (.int .i64 x) "ID").run Tryz.prog w = .ok (425, .int .i64 x) w := by kernel_rfl
theorem taG (pb : Nat) (w : World) : (Instr.typeAssert (gV pb) 83 159 true).run Tryz.prog w = .ok (.tuple #[gV pb, .bool true]) w := by kernel_rfl
theorem taB (bb : Nat) (w : World) : (Instr.typeAssert (.iface 97 (.pointer (some ⟨bb, 0, none⟩))) 140 159 true).run Tryz.prog w = .ok (.tuple #[.nilIface, .bool false]) w := run_typeAssert_lacksB Tryz.underlying159 (by kernel_rfl) (by kernel_rfl) _ _ w
theorem uEdgeB {B1 pa bb : Nat} {w : World} {G : PG} (hG : Plain B1 w pa G) (hbb : B1 ≤ bb) {k : Nat} {u : Int} (hu : G.ids[k]? = some u) (v : Int) (W : World) (hk : Keep (fun b => b = bb) w W) :
    Calls Tryz.prog 332 #[uV pa, .int .i64 u, .int .i64 v] W fun e w' => ∃ x, e = .returned x ∧ EdgeIs (decide (v ∈ nbo G u)) x ∧ Keep (fun _ => False) W w' := by
  have h := hG.keep hk (fun b e => by omega)
  refine (uEdge_spec h u v).mono ?_
  rintro e w' ⟨x, rfl, h1, h2, h3⟩
  refine ⟨x, rfl, ?_, h3⟩
  have hm := nbo_mem hG.ok (List.mem_of_getElem? hu) v
  by_cases ha : G.adj u v
  · obtain ⟨f, hf⟩ := h2 ha
    exact .inr ⟨by simpa using hm.2 ha, _, hf⟩
  · exact .inl ⟨by simpa using fun h => ha (hm.1 h), h1.2 ha⟩
theorem eMod_step {fa fb : Int → List Int} {P : List (Int × Int)} {U V : Int × Int} {k : Nat} (h : P[k]? = some V) :
    ((P.take (k + 1)).filter (fun v => modOk fa fb U v)).map (fun v => (U, v)) = ((P.take k).filter (fun v => modOk fa fb U v)).map (fun v => (U, v)) ++ (if modOk fa fb U V then [(U, V)] else []) := by
  rw [List.take_add_one, h, List.filter_append, List.map_append]
  by_cases hm : modOk fa fb U V = true <;> simp [hm]
set_option maxHeartbeats 16000000 in
set_option maxRecDepth 100000 in
theorem prodMod_spec {B1 pa pb bb : Nat} {w : World} {GA GB : PG} (hA : Plain B1 w pa GA) (hB : Plain B1 w pb GB) (hB1 : B1 ≤ bb) (UA : UG GA) (UB : UG GB) (a0 : 0 < GA.ids.length) (b0 : 0 < GB.ids.length) (a1 : GA.ids.length ≤ 8) (b1 : GB.ids.length ≤ 8) (hbd : Bd0 w bb) :
    Calls Tryz.prog 152 #[.iface 97 (.pointer (some ⟨bb, 0, none⟩)), gV pa, gV pb] w (ProdPost w bb (pairsOf GA.ids GB.ids) (eMod GA.ids GB.ids (nbo GA) (nbo GB))) := by
  unfold ProdPost
  have hbl := hbd.lt
  have hcn := cartNodes_spec hA hB (by omega) a0 b0 (by omega) (by omega)
  have hea := fun k u (hu : GA.ids[k]? = some u) v W hk => uEdgeB hA hB1 hu v W hk
  have heb := fun k u (hu : GB.ids[k]? = some u) v W hk => uEdgeB hB hB1 hu v W hk
  have hna := PG.ids_nodup hA.ok
  have hnb := PG.ids_nodup hB.ok
  have hmul : GA.ids.length * GB.ids.length ≤ 64 := Nat.le_trans (Nat.mul_le_mul a1 b1) (by decide)
  have hpos : 0 < GA.ids.length * GB.ids.length := Nat.mul_pos a0 b0
  have hPl := pairsOf_length GA.ids GB.ids
  have hPn := pairsOf_nodup hna hnb
  have hPi : ∀ k p, (pairsOf GA.ids GB.ids)[k]? = some p → (pairsOf GA.ids GB.ids).idxOf p = k := fun k p hp => by
    obtain ⟨h1, h2⟩ := List.getElem?_eq_some_iff.1 hp
    rw [← h2]; exact hPn.idxOf_getElem _ h1
  have hrow : ∀ k, k < (pairsOf GA.ids GB.ids).length → ∃ p, (pairsOf GA.ids GB.ids)[k]? = some p ∧ (∃ i, GA.ids[i]? = some p.1) ∧ ∃ j, GB.ids[j]? = some p.2 := fun k hk => by
    refine ⟨_, List.getElem?_eq_getElem hk, ?_, ?_⟩
    · exact List.mem_iff_getElem?.1 ((mem_pairsOf (p := (pairsOf GA.ids GB.ids)[k])).1 (List.getElem_mem hk)).1
    · exact List.mem_iff_getElem?.1 ((mem_pairsOf (p := (pairsOf GA.ids GB.ids)[k])).1 (List.getElem_mem hk)).2
  unfold CNPost at hcn
  generalize nbo GA = fa at *
  generalize nbo GB = fb at *
  generalize GA.ids = A at *
  generalize GB.ids = B at *
  rw [hPl] at hrow
  generalize hNN : A.length * B.length = N at *
  have HCN := Lib.hid hcn
  have HEA := Lib.hid hea
  have HEB := Lib.hid heb
  have HPLEN := Lib.hid hPl
  have HPI := Lib.hid hPi
  have HROW := Lib.hid hrow
  have HBD := Lib.hid hbd
  have d1 : ((N : Int) == 0) = false := by rw [beq_eq_false_iff_ne]; omega
  have tag := taG
  have hmid := methID
  have tab := taB
  clear hcn hea heb hPl hPi hPn hrow hNN hbd hna hnb hA hB UA UB a0 b0 a1 b1
  go_enter Tryz.func152, Tryz.ntmps152
  go_wp2_with (first
    | (((with_reducible refine (HCN.out).mono ?_); rintro e w1 ⟨av, bv, gp, rfl, hra, hrb, hp, hgl, hga, hgb, hk1⟩); obtain ⟨aa, an, ac, rfl⟩ := hra.slc; obtain ⟨ba, bn, bc, rfl⟩ := hrb.slc; clear hga hgb hra hrb; have HP := Lib.hid hp; have HK1 := Lib.hid hk1; clear hp hk1))
  have hb1 : Bd w1 bb (bb + 1) (pairsOf A B) (.slice none 0 0) [] (.slice none 0 0) [] := (Bd0.bd HBD.out).keepF HK1.out
  have hz1 := HK1.out.size
  have hgpl := HP.out.lt
  have HB1 := Lib.hid hb1
  clear hb1 HCN HBD
  go_loopg [38] (N + 1) (fun gk i wr => ∃ (k : Nat) (nv : Value), i = .int .i64 (k : Int) ∧ k + gk = N + 1 ∧ k ≤ N ∧ Bd wr bb (bb + 1) (pairsOf A B) nv ((pairsOf A B).take k) (.slice none 0 0) [] ∧ (∀ g, nv.ownBlock = some g → w1.heap.size ≤ g) ∧ Keep (fun b => b = bb) w1 wr)
  case atStart => exact ⟨0, _, rfl, by omega, Nat.zero_le _, HB1.out, fun g hg => (by cases hg), Keep.refl _ _⟩
  case round =>
    obtain ⟨k, nv, rfl, hgk, hkN, hb, hnv, hk⟩ := hrel
    clear HB1
    have HB := Lib.hid hb
    have HNV := Lib.hid hnv
    have HK := Lib.hid hk
    have HGK := Lib.hid hgk
    clear hb hnv hk hgk
    by_cases hlt : k < N
    · obtain ⟨⟨a, b⟩, hab, _⟩ := HROW.out k hlt
      obtain ⟨c0, c1, c2⟩ := (HP.out.keep HK.out (show ¬ gp = bb by omega)).cells hlt hab
      have hwr := HK.out.size
      have hadd := addNode_at (a := a) (b := b) (HB.out.keepF ((Keep.refl (fun _ => False) wr).alloc (.cells #[.int .i64 (k : Int), nodeV a, nodeV b] 146 (0, 0)))) (HPI.out k _ hab) (by simp; omega) (by simp; omega)
      have HADD := Lib.hid hadd
      have HAB := Lib.hid hab
      clear hadd hab
      go_wp2_with (first
        | (((with_reducible refine (HADD.out).mono ?_); rintro e w4 ⟨rfl, nv', q1, q2, q3⟩); have Q1 := Lib.hid q1; have Q2 := Lib.hid q2; have Q3 := Lib.hid q3; clear q1 q2 q3))
      go_roundg (gk - 1)
      case measure => have := HGK.out; omega
      case rel =>
        refine ⟨k + 1, nv', by go_num, by have := HGK.out; omega, by omega, ?_, fun g hg => ?_, (HK.out.alloc _).trans Q3.out (fun b hb e => ?_)⟩
        · rw [List.take_add_one, HAB.out]; exact Q1.out
        · rcases Q2.out with e | ⟨g', e, h⟩
          · rw [e] at hg; exact HNV.out g hg
          · rw [e] at hg; cases hg; simp at h; omega
        · rcases e with e | e
          · exact e
          · have := HNV.out b e; omega
    · obtain rfl : N = k := by omega
      have hwr := HK.out.size
      have hb4 : Bd wr bb (bb + 1) (pairsOf A B) nv (pairsOf A B) (.slice none 0 0) [] := by
        have := HB.out
        rwa [← HPLEN.out, List.take_length] at this
      have hp5 := HP.out.keep HK.out (show ¬ gp = bb by omega)
      have hps : PS wr (.slice none 0 0) wr bb bb (pairsOf A B) nv (.slice none 0 0) [] :=
        ⟨hb4, Keep.refl _ _, fun g hg => (by cases hg), by omega, by omega, fun g hg => (by cases hg), fun h => absurd rfl h, fun g hg => ⟨by have := (hb4.nodes.lt g hg).2; omega, by have := HNV.out g hg; omega, by have := HNV.out g hg; omega, fun e => (by cases e)⟩⟩
      have hk05 : Keep (fun b => b = bb) w wr := (HK1.out.mono (fun _ _ h => h.elim)).trans HK.out (fun _ _ h => h)
      have HP5 := Lib.hid hp5
      have HPS := Lib.hid hps
      have HK05 := Lib.hid hk05
      have HPI5 := Lib.hid HPI.out
      clear hp5 hps hk05 hb4 HB HNV HK HGK HP HPI
      have hgpb : gp < wr.heap.size := by omega
      go_wp2_with fail
      go_loopg [78] (N + 1) (fun gk q wq => ∃ (i : Nat) (ev : Value) (es : List Lnk), q = .int .i64 (i : Int) ∧ i + gk = N + 1 ∧ i ≤ N ∧ es = ((pairsOf A B).take i).flatMap (fun U => eModU fa fb (pairsOf A B) U) ∧ es.length ≤ i * 64 ∧ PS wr (.slice none 0 0) wq bb bb (pairsOf A B) nv ev es)
      case atStart => exact ⟨0, _, [], rfl, by omega, Nat.zero_le _, rfl, by simp, HPS.out⟩
      case round =>
        rename World => wq
        obtain ⟨i, ev, es, rfl, hgk, hiN, hes, hel, hps⟩ := hrel
        clear HPS
        have HPS := Lib.hid hps
        have HES := Lib.hid hes
        have HGK := Lib.hid hgk
        clear hps hes hgk
        by_cases hlt2 : i < N
        · obtain ⟨⟨a, b⟩, hab, ⟨ia, hia⟩, ⟨ib, hib⟩⟩ := HROW.out i hlt2
          have hkb : Keep (fun b => b = bb) wr wq := (keepBB HPS.out.keep).mono (fun _ _ h => by rcases h with h | h <;> exact h)
          obtain ⟨c0, c1, c2⟩ := (HP5.out.keep hkb (by omega)).cells hlt2 hab
          have hun : NAt (wq.alloc (.cells #[.int .i64 (i : Int), nodeV a, nodeV b] 146 (0, 0))) wq.heap.size i (a, b) := heap_new wq _
          have hps2 := HPS.out.keepF ((Keep.refl (fun _ => False) wq).alloc (.cells #[.int .i64 (i : Int), nodeV a, nodeV b] 146 (0, 0)))
          have hevu : ∀ g, ev.ownBlock = some g → g ≠ wq.heap.size := fun g hg => by have := (HPS.out.evw g hg).2; omega
          have hub : wq.heap.size ≠ bb := by have := HPS.out.blt; have := HPS.out.keep.size; omega
          have hus : wq.heap.size < (wq.alloc (.cells #[.int .i64 (i : Int), nodeV a, nodeV b] 146 (0, 0))).heap.size := by simp
          have HAB := Lib.hid hab
          have HIA := Lib.hid hia
          have HIB := Lib.hid hib
          have HUN := Lib.hid hun
          have HPS2 := Lib.hid hps2
          have HEVU := Lib.hid hevu
          clear hab hia hib hun hps2 hevu hkb
          generalize gk = gko at *
          go_wp2_with fail
          have hrb := HPS2.out.rebase
          have HRB := Lib.hid hrb
          clear hrb
          have hwqs := HPS.out.keep.size
          generalize (wq.alloc (.cells #[.int .i64 (i : Int), nodeV a, nodeV b] 146 (0, 0))) = wu at *
          generalize wq.heap.size = u at *
          go_loopg [90] (N + 1) (fun gk q wk => ∃ (k : Nat) (ev' : Value) (es' : List Lnk), q = .int .i64 (k : Int) ∧ k + gk = N + 1 ∧ k ≤ N ∧ es' = es ++ (((pairsOf A B).take k).filter (fun v => modOk fa fb (a, b) v)).map (fun v => ((a, b), v)) ∧ es'.length ≤ i * 64 + k ∧ PS wu ev wk bb bb (pairsOf A B) nv ev' es')
          case atStart => exact ⟨0, ev, es, rfl, by omega, Nat.zero_le _, by simp, by omega, HRB.out⟩
          case round =>
            rename World => wk
            obtain ⟨k, ev', es', rfl, hgk, hkN, hes, hel2, hps⟩ := hrel
            clear HRB
            have HPK := Lib.hid hps
            have HESK := Lib.hid hes
            have HGK2 := Lib.hid hgk
            clear hps hes hgk
            by_cases hlt3 : k < N
            · obtain ⟨⟨c, d⟩, hcd, _⟩ := HROW.out k hlt3
              have hkb : Keep (fun b => b = bb) wr wk := (keepBB (HPS2.out.trans HPK.out).keep).mono (fun _ _ h => by rcases h with h | h <;> exact h)
              obtain ⟨c0, c1, c2⟩ := (HP5.out.keep hkb (by omega)).cells hlt3 hcd
              have huk : NAt wk u i (a, b) := HUN.out.keep HPK.out.keep (fun e => by
                rcases e with e | e | e
                · exact hub e
                · exact hub e
                · exact HEVU.out _ e rfl)
              have hku := HPK.out.keep.size
              have hu2 : NAt (wk.alloc (.cells #[.int .i64 (k : Int), nodeV c, nodeV d] 146 (0, 0))) u i (a, b) := huk.keep ((Keep.refl (fun _ => False) wk).alloc _) (fun h => h)
              have hv2 : NAt (wk.alloc (.cells #[.int .i64 (k : Int), nodeV c, nodeV d] 146 (0, 0))) wk.heap.size k (c, d) := heap_new wk _
              have hps3 := HPK.out.keepF ((Keep.refl (fun _ => False) wk).alloc (.cells #[.int .i64 (k : Int), nodeV c, nodeV d] 146 (0, 0)))
              have HCD := Lib.hid hcd
              have HU2 := Lib.hid hu2
              have HV2 := Lib.hid hv2
              have HPK3 := Lib.hid hps3
              have HKB := Lib.hid (hkb.alloc (.cells #[.int .i64 (k : Int), nodeV c, nodeV d] 146 (0, 0)))
              clear hcd hu2 hv2 hps3 hkb huk
              generalize gk = gki at *
              go_upto_region 23 with fail
              clear c0 c1 c2
              generalize (wk.alloc (.cells #[.int .i64 (k : Int), nodeV c, nodeV d] 146 (0, 0))) = wv at *
              generalize wk.heap.size = v at *
              obtain ⟨u0, u1, u2⟩ := HU2.out.cells
              obtain ⟨v0, v1, v2⟩ := HV2.out.cells
              have hmk : ∀ W, Keep (fun _ => False) wv W → Keep (fun b => b = bb) w W := fun W h => (HK05.out.trans HKB.out (fun _ _ h => h)).trans h (fun _ _ h => h.elim)
              have HMK := Lib.hid hmk
              clear hmk
              by_cases hac : a = c
              · subst hac
                have hm0 : modOk fa fb (a, b) (a, d) = false := by simp [modOk]
                have HM0 := Lib.hid hm0
                clear hm0
                go_quiet (first
                  | (exact Calls.quiet_of_same (ID_spec _ _)))
                all_goals (go_wp2_with fail)
                all_goals go_roundg (gki - 1)
                all_goals first | (case measure => have := HGK2.out; omega) | (case rel => exact ⟨k + 1, ev', _, by go_num, by have := HGK2.out; omega, by omega, by rw [eMod_step HCD.out, HM0.out, if_neg (by decide), List.append_nil]; exact HESK.out, by omega, HPK3.out.keepF ((Keep.refl _ _).drewN _)⟩)
              · have e1 : (a == c) = false := by simpa using hac
                by_cases hbd' : b = d
                · subst hbd'
                  have hm0 : modOk fa fb (a, b) (c, b) = false := by simp [modOk]
                  have HM0 := Lib.hid hm0
                  clear hm0
                  go_quiet (first
                    | (exact Calls.quiet_of_same (ID_spec _ _)))
                  all_goals (go_wp2_with fail)
                  all_goals go_roundg (gki - 1)
                  all_goals first | (case measure => have := HGK2.out; omega) | (case rel => exact ⟨k + 1, ev', _, by go_num, by have := HGK2.out; omega, by omega, by rw [eMod_step HCD.out, HM0.out, if_neg (by decide), List.append_nil]; exact HESK.out, by omega, HPK3.out.keepF ((Keep.refl _ _).drewN _)⟩)
                · have e2 : (b == d) = false := by simpa using hbd'
                  have hmm : modOk fa fb (a, b) (c, d) = (decide (c ∈ fa a) == decide (d ∈ fb b)) := by
                    unfold modOk
                    have h1 : (a != c) = true := by simpa using hac
                    have h2 : (b != d) = true := by simpa using hbd'
                    rw [h1, h2]; simp
                  have HMM := Lib.hid hmm
                  clear hmm
                  go_quiet (first
                    | (exact Calls.quiet_of_same (ID_spec _ _)))
                  go_upto_region 24 with fail
                  have hkc := (Keep.refl (fun _ => False) wv).drewN nq
                  have HKC := Lib.hid hkc
                  clear hkc
                  refine modA_region (pa := pa) (u := u) (v := v) (q1 := i) (q2 := k) (p1 := (a, b)) (p2 := (c, d)) (bl := decide (c ∈ fa a)) rfl rfl rfl rfl (HU2.out.keep HKC.out (fun h => h)) (HV2.out.keep HKC.out (fun h => h)) (fun W hk' => HEA.out ia a HIA.out c W (HMK.out W (HKC.out.trans hk' (fun _ _ h => h)))) ?_
                  intro f wx hkx
                  rw [putAll_modA]
                  simp only [Act.put, List.setIfInBounds_toArray, List.set_cons_zero, List.set_cons_succ]
                  have HKX := Lib.hid (HKC.out.trans hkx (fun _ _ h => h))
                  clear hkx
                  go_upto_region 25 with fail
                  refine modB_region (pa := pb) (u := u) (v := v) (q1 := i) (q2 := k) (p1 := (a, b)) (p2 := (c, d)) (bl := decide (d ∈ fb b)) rfl rfl rfl rfl (HU2.out.keep HKX.out (fun h => h)) (HV2.out.keep HKX.out (fun h => h)) (fun W hk' => HEB.out ib b HIB.out d W (HMK.out W (HKX.out.trans hk' (fun _ _ h => h)))) ?_
                  intro f2 wy hky
                  rw [putAll_modB]
                  simp only [Act.put, List.setIfInBounds_toArray, List.set_cons_zero, List.set_cons_succ]
                  have HKY := Lib.hid (HKX.out.trans hky (fun _ _ h => h))
                  clear hky
                  obtain ⟨ba, hba⟩ : ∃ ba, decide (c ∈ fa a) = ba := ⟨_, rfl⟩
                  obtain ⟨bb', hbb'⟩ : ∃ bb', decide (d ∈ fb b) = bb' := ⟨_, rfl⟩
                  rw [hba]
                  rw [hbb']
                  have hm2 := HMM.out
                  rw [hba, hbb'] at hm2
                  have HM2 := Lib.hid hm2
                  clear hba hbb' hm2
                  by_cases hin : ba = bb'
                  · subst hin
                    have hm1 : modOk fa fb (a, b) (c, d) = true := by rw [HM2.out]; simp
                    have HM1 := Lib.hid hm1
                    clear hm1
                    go_upto_region 27 with fail
                    have hpy := HPK3.out.keepF HKY.out
                    refine modS_region (bb := bb) (lo := bb + 1) (u := u) (v := v) (q1 := i) (q2 := k) (PP := pairsOf A B) (p1 := (a, b)) (p2 := (c, d)) rfl rfl rfl rfl hpy.bd hpy.bbw (by omega) (HU2.out.keep HKY.out (fun h => h)) (HV2.out.keep HKY.out (fun h => h)) (HPI5.out _ _ HAB.out) (HPI5.out _ _ HCD.out) ?_
                    rintro f3 vv wz ⟨ev4, z1, z2, z3⟩
                    have hpz := hpy.edge z1 z2 z3
                    rw [putAll_modS]
                    simp only [Act.put, List.setIfInBounds_toArray, List.set_cons_zero, List.set_cons_succ]
                    have HPZ := Lib.hid hpz
                    clear z1 z2 z3 hpz hpy
                    go_wp2_with fail
                    go_roundg (gki - 1)
                    case measure => have := HGK2.out; omega
                    case rel => exact ⟨k + 1, ev4, _, by go_num, by have := HGK2.out; omega, by omega, by rw [eMod_step HCD.out, HM1.out, if_pos rfl, ← List.append_assoc, ← HESK.out], by simp; omega, HPZ.out⟩
                  · have hm0 : modOk fa fb (a, b) (c, d) = false := by rw [HM2.out]; simpa using hin
                    have e3 : (ba == bb') = false := by simpa using hin
                    have HM0 := Lib.hid hm0
                    clear hm0
                    go_wp2_with fail
                    go_roundg (gki - 1)
                    case measure => have := HGK2.out; omega
                    case rel => exact ⟨k + 1, ev', _, by go_num, by have := HGK2.out; omega, by omega, by rw [eMod_step HCD.out, HM0.out, if_neg (by decide), List.append_nil]; exact HESK.out, by omega, HPK3.out.keepF HKY.out⟩
            · obtain rfl : N = k := by omega
              have heq : es' = es ++ eModU fa fb (pairsOf A B) (a, b) := by
                have := HESK.out
                rw [← HPLEN.out, List.take_length] at this
                exact this
              have HEQ := Lib.hid heq
              clear heq HESK HGK2
              go_wp2_with fail
              go_roundg (gko - 1)
              case measure => have := HGK.out; omega
              case rel => exact ⟨i + 1, ev', es', by go_num, by have := HGK.out; omega, by omega, by rw [flat_step HAB.out, HEQ.out, HES.out], by omega, HPS2.out.trans HPK.out⟩
        · obtain rfl : N = i := by omega
          have heq : es = eMod A B fa fb := by
            have := HES.out
            rw [← HPLEN.out, List.take_length] at this
            exact this
          have hkf : Keep (fun b => b = bb) w wq := HK05.out.trans ((keepBB HPS.out.keep).mono (fun _ _ h => by rcases h with h | h <;> exact h)) (fun _ _ h => h)
          have hbf := HPS.out.bd
          rw [heq] at hbf
          have HKF := Lib.hid hkf
          have HBF := Lib.hid hbf
          clear heq hkf hbf
          go_wp2_with fail
          go_returns
          exact ⟨rfl, nv, ev, HBF.out, HKF.out⟩
end Go.Proofs.YtpjaeilkjglfhaaGreat
end
