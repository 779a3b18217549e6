/- copy and append, told by what they leave of the blocks (over any program). -/
import Derived.Test.YtdaccgelmcmfjaaGreatDoorJV0
import Derived.Laws.CopyRow
import Derived.Laws.CopyOwn
import Derived.Lib.AppendZerosOnto
import Derived.Deep.RegionLaw
import Derived.Lib.Overlaps
import Derived.Laws.OwnMore
import Derived.WalkSmall
set_option linter.all false
section
namespace Go.V
open Go.RowKit Go.ChangeMaps
section
variable {P : Program} {ops : Array Oper} {rest : List Oper} {o : Oper} {a : Act} {Q : Exit → Act → World → Prop} {w : World}
theorem run_copy_blk (w : World) (dT sT ty elem : TypeId) (sz : Nat) (g off dLen dCap : Nat) (ad : Addr) (sLen sCap : Nat) (cur : Array Value) (t : TypeId) (cs : List Value)
    (hu : P.underlying dT = some (.slice elem)) (hs : (P.info? elem).map (·.size) = some sz)
    (hg : w.heap[g]? = some (.cells cur t (0, 0))) (hn : cs.length = Nat.min sLen dLen * sz)
    (hsrc : ∀ j v, cs[j]? = some v → w.cell? (ad.add j) = some v) (hfit : off + cs.length ≤ cur.size) (h1 : ∀ v ∈ cs, v.oneCell' = true) :
    (Builtin.copy_ #[dT, sT] ty #[.slice (some ⟨g, off, none⟩) dLen dCap, .slice (some ad) sLen sCap]).run P w =
      .ok (goInt (Nat.min sLen dLen : Nat)) (w.setRow g (cur.toList.take off ++ cs ++ cur.toList.drop (off + cs.length)).toArray) := by
  have hl := run_loadCells_list (P := P) w ad cs hsrc
  have hst := run_storeCells_at P g off t cs 0 cur w hg (by simpa using hfit) h1
  cases hq : P.info? elem with
  | none => simp [hq] at hs
  | some i =>
    have hi : i.size = sz := by simpa [hq] using hs
    simp [Builtin.copy_, run_underlying hu, Builtin.lenOf, Builtin.firstCells, sizeOf, typeInfo, hq, hi, ← hn, hl, hst]
theorem keep_setRow (w : World) (g : Nat) (cs : Array Value) : Keep (fun b => b = g) w (w.setRow g cs) :=
  ⟨rfl, rfl, rfl, by simp [World.setRow], fun k _ hn => setRow_other w g k cs hn⟩
theorem size_setRow (w : World) (g : Nat) (cs : Array Value) : (w.setRow g cs).heap.size = w.heap.size := by simp [World.setRow]
theorem wpList_ex (hg : o.guard = none) {v : Value} {Φ : World → Prop} (hrun : ∃ w', (execOp a.eval o).run P w = .ok (.value v) w' ∧ Φ w') (h : ∀ w', Φ w' → wpList P ops Q rest (a.put o.dst v) w') : wpList P ops Q (o :: rest) a w := by
  obtain ⟨w', h1, h2⟩ := hrun
  exact wpList_val hg h1 (h w' h2)
theorem step_ex {K : Act → World → Prop} {E : Prop} (hg : o.guard = none) {v : Value} {Φ : World → Prop} (hrun : ∃ w', (execOp a.eval o).run P w = .ok (.value v) w' ∧ Φ w') (h : ∀ w', Φ w' → K (a.put o.dst v) w') :
    if Region.wanted o (yielded ops a.tmps) = true then Oper.wp P o a w K Q else E := by
  have hw : Region.wanted o (yielded ops a.tmps) = true := by simp [Region.wanted, hg]
  rw [if_pos hw]
  obtain ⟨w', h1, h2⟩ := hrun
  unfold Oper.wp
  rw [h1]
  exact h w' h2
theorem run_copy_op {d x : Operand} {t t' : TypeId} (ho : o.op = .call { callee := .builtin .copy, args := #[d, x], argTypes := #[t, t'] }) {u v v' : Value} {w' : World} (hd : a.eval d = u) (hx : a.eval x = v)
    (hr : (Builtin.copy_ #[t, t'] o.type #[u, v]).run P w = .ok v' w') : (execOp a.eval o).run P w = .ok (.value v') w' := by
  unfold execOp
  simp [ho, resolve, invoke, builtin, hd, hx, hr, Sem.run_bind]
theorem run_append_op {d x : Operand} {t t' : TypeId} (ho : o.op = .call { callee := .builtin .append, args := #[d, x], argTypes := #[t, t'] }) {u v v' : Value} {w' : World} (hd : a.eval d = u) (hx : a.eval x = v)
    (hr : (Builtin.append_ #[t, t'] o.type #[u, v]).run P w = .ok v' w') : (execOp a.eval o).run P w = .ok (.value v') w' := by
  unfold execOp
  simp [ho, resolve, invoke, builtin, hd, hx, hr, Sem.run_bind]
theorem exec_copy_blk {d s : Operand} {dT sT : TypeId} (ho : o.op = .call { callee := .builtin .copy, args := #[d, s], argTypes := #[dT, sT] }) {elem : TypeId} {sz g off dLen dCap : Nat} {ad : Addr} {sLen sCap : Nat} {cur : Array Value} {t : TypeId} {cs : List Value}
    (hd : a.eval d = .slice (some ⟨g, off, none⟩) dLen dCap) (hs : a.eval s = .slice (some ad) sLen sCap)
    (hu : P.underlying dT = some (.slice elem)) (hz : (P.info? elem).map (·.size) = some sz)
    (hg : w.heap[g]? = some (.cells cur t (0, 0))) (hn : cs.length = Nat.min sLen dLen * sz)
    (hsrc : ∀ j v, cs[j]? = some v → w.cell? (ad.add j) = some v) (hfit : off + cs.length ≤ cur.size) (h1 : ∀ v ∈ cs, v.oneCell' = true) :
    ∃ w', (execOp a.eval o).run P w = .ok (.value (goInt (Nat.min sLen dLen : Nat))) w' ∧
      (w'.heap[g]? = some (.cells (cur.toList.take off ++ cs ++ cur.toList.drop (off + cs.length)).toArray t (0, 0)) ∧ Keep (fun b => b = g) w w' ∧ w'.heap.size = w.heap.size) := by
  refine ⟨_, ?_, setRow_heap w g cur _ t (0, 0) hg, keep_setRow _ _ _, size_setRow _ _ _⟩
  exact run_copy_op ho hd hs (run_copy_blk (P := P) w dT sT o.type elem sz g off dLen dCap ad sLen sCap cur t cs hu hz hg hn hsrc hfit h1)
theorem exec_append_own {s x : Operand} {t : TypeId} (ho : o.op = .call { callee := .builtin .append, args := #[s, x], argTypes := #[t, t] })
    (e : TypeId) (i : TypeInfo) (z : Value) (size bytes : Nat) (ht : P.underlying t = some (.slice e)) (hi : P.info? e = some i) (hz : i.zero = some z)
    (hsize : i.size = size) (hby : i.bytes = bytes) (hzs : z.cells.size = size) (hsz : 0 < size)
    {v : Value} {n : Nat} {xs : List Value} (hs : a.eval s = v) (hown : w.ownsRow 0 e size v n xs)
    {ad : Addr} {m c : Nat} {news : List Value} (hx : a.eval x = .slice (some ad) m c) (hl : news.length = m * size) (hnews : ∀ j u, news[j]? = some u → w.cell? (ad.add j) = some u) (h1 : ∀ u ∈ news, u.oneCell' = true)
    (hm : 0 < m) (h63 : n + m ≤ maxLen) (hbytes : (n + m) * bytes ≤ 140737488355328) :
    ∃ g cap w', (execOp a.eval o).run P w = .ok (.value (.slice (some ⟨g, 0, none⟩) (n + m) cap)) w' ∧
      w'.ownsRow 0 e size (.slice (some ⟨g, 0, none⟩) (n + m) cap) (n + m) (xs ++ news) ∧ Keep (fun b => v.ownBlock = some b) w w' ∧ (v.ownBlock = some g ∨ g = w.heap.size) ∧ g < w'.heap.size := by
  obtain ⟨g, cap, w', hr, h2, h3, h4, h5⟩ := run_append_lies (P := P) w t o.type 0 e i z size bytes ht hi hz hsize hby hzs hsz v n xs hown ad m c news hl hnews h1 hm h63 hbytes (Nat.zero_le _) _ rfl
  exact ⟨g, cap, w', run_append_op ho hs hx hr, h2, (Keep.refl _ _).grown h3 (fun _ h _ => h), h4, h5⟩
theorem wpList_append_own' (hg : o.guard = none) {s x : Operand} {t : TypeId} (ho : o.op = .call { callee := .builtin .append, args := #[s, x], argTypes := #[t, t] })
    (e : TypeId) (i : TypeInfo) (z : Value) (size bytes : Nat) (ht : P.underlying t = some (.slice e)) (hi : P.info? e = some i) (hz : i.zero = some z)
    (hsize : i.size = size) (hby : i.bytes = bytes) (hzs : z.cells.size = size) (hsz : 0 < size)
    (v : Value) (n : Nat) (xs : List Value) (hs : a.eval s = v) (hown : w.ownsRow 0 e size v n xs)
    (ad : Addr) (m c : Nat) (news : List Value) (hx : a.eval x = .slice (some ad) m c) (hl : news.length = m * size) (hnews : ∀ j u, news[j]? = some u → w.cell? (ad.add j) = some u) (h1 : ∀ u ∈ news, u.oneCell' = true)
    (hm : 0 < m) (h63 : n + m ≤ maxLen) (hbytes : (n + m) * bytes ≤ 140737488355328)
    (h : ∀ g cap w', w'.ownsRow 0 e size (.slice (some ⟨g, 0, none⟩) (n + m) cap) (n + m) (xs ++ news) → Keep (fun b => v.ownBlock = some b) w w' → (v.ownBlock = some g ∨ g = w.heap.size) → g < w'.heap.size →
      wpList P ops Q rest (a.put o.dst (.slice (some ⟨g, 0, none⟩) (n + m) cap)) w') : wpList P ops Q (o :: rest) a w := by
  obtain ⟨g, cap, w', hr, h2, h3, h4, h5⟩ := exec_append_own ho e i z size bytes ht hi hz hsize hby hzs hsz hs hown hx hl hnews h1 hm h63 hbytes
  exact wpList_val hg hr (h g cap w' h2 h3 h4 h5)
theorem exec_push {s x : Operand} {t : TypeId} (ho : o.op = .call { callee := .builtin .append, args := #[s, x], argTypes := #[t, t] })
    {S : Nat → Prop} {w0 w1 : World} (hk0 : Keep S w0 w1) (hk1 : Keep (fun _ => False) w1 w) {e : TypeId} {size bytes : Nat} {z : Value} (hi : (P.info? e).map (fun i => (i.zero, i.size, i.bytes)) = some (some z, size, bytes)) (ht : P.underlying t = some (.slice e))
    (hzs : z.cells.size = size) (hsz : 0 < size)
    (v : Value) (n : Nat) (xs : List Value) (hs : a.eval s = v) (hown : w1.ownsRow w0.heap.size e size v n xs)
    (ad : Addr) (m c : Nat) (news : List Value) (hx : a.eval x = .slice (some ad) m c) (hl : news.length = m * size) (hnews : ∀ j u, news[j]? = some u → w.cell? (ad.add j) = some u) (h1 : ∀ u ∈ news, u.oneCell' = true)
    (hm : 0 < m) (h63 : n + m ≤ maxLen) (hbytes : (n + m) * bytes ≤ 140737488355328) :
    ∃ g cap w', (execOp a.eval o).run P w = .ok (.value (.slice (some ⟨g, 0, none⟩) (n + m) cap)) w' ∧ w'.ownsRow w0.heap.size e size (.slice (some ⟨g, 0, none⟩) (n + m) cap) (n + m) (xs ++ news) ∧ Keep S w0 w' ∧ w0.heap.size ≤ g ∧ g < w'.heap.size ∧
      Keep (fun b => v.ownBlock = some b) w w' ∧ (v.ownBlock = some g ∨ g = w.heap.size) := by
  obtain ⟨i, hi', hz, hsize, hby⟩ := info_parts hi
  have hown1 : w.ownsRow w0.heap.size e size v n xs := by
    obtain ⟨hxl, hrow⟩ := hown
    refine ⟨hxl, ?_⟩
    rcases hrow with h | ⟨g, cap, cur, hv, hb, hh, h3⟩
    · exact .inl h
    · exact .inr ⟨g, cap, cur, hv, hb, hk1.get hh (fun h => h), h3⟩
  have hB : w0.heap.size ≤ w.heap.size := Nat.le_trans hk0.size hk1.size
  obtain ⟨g, cap, w', hr, h2, h3, h4, h5⟩ := run_append_lies (P := P) w t o.type w0.heap.size e i z size bytes ht hi' hz hsize hby hzs hsz v n xs hown1 ad m c news hl hnews h1 hm h63 hbytes hB _ rfl
  have hkk : Keep S w0 w := hk0.trans hk1 (fun _ _ h => h.elim)
  refine ⟨g, cap, w', run_append_op ho hs hx hr, h2, hkk.grown h3 (fun k hk hlt => ?_), ?_, h5, (Keep.refl _ _).grown h3 (fun _ h _ => h), h4⟩
  · exfalso
    obtain ⟨_, hrow⟩ := hown1
    rcases hrow with ⟨rfl, _⟩ | ⟨g', cap', cur, rfl, hb, hh, _⟩
    · cases hk
    · cases hk; exact absurd hb (Nat.not_le.2 hlt)
  · obtain ⟨_, hrow⟩ := h2
    rcases hrow with ⟨hv, _⟩ | ⟨g', cap', cur, hv, hb, hh, _⟩
    · cases hv
    · cases hv; exact hb
theorem wpList_push (hg : o.guard = none) {s x : Operand} {t : TypeId} (ho : o.op = .call { callee := .builtin .append, args := #[s, x], argTypes := #[t, t] })
    {S : Nat → Prop} {w0 w1 : World} (hk0 : Keep S w0 w1) (hk1 : Keep (fun _ => False) w1 w) {e : TypeId} {size bytes : Nat} {z : Value} (hi : (P.info? e).map (fun i => (i.zero, i.size, i.bytes)) = some (some z, size, bytes)) (ht : P.underlying t = some (.slice e))
    (hzs : z.cells.size = size) (hsz : 0 < size)
    (v : Value) (n : Nat) (xs : List Value) (hs : a.eval s = v) (hown : w1.ownsRow w0.heap.size e size v n xs)
    (ad : Addr) (m c : Nat) (news : List Value) (hx : a.eval x = .slice (some ad) m c) (hl : news.length = m * size) (hnews : ∀ j u, news[j]? = some u → w.cell? (ad.add j) = some u) (h1 : ∀ u ∈ news, u.oneCell' = true)
    (hm : 0 < m) (h63 : n + m ≤ maxLen) (hbytes : (n + m) * bytes ≤ 140737488355328)
    (h : ∀ g cap w', w'.ownsRow w0.heap.size e size (.slice (some ⟨g, 0, none⟩) (n + m) cap) (n + m) (xs ++ news) → Keep S w0 w' → w0.heap.size ≤ g → g < w'.heap.size →
      wpList P ops Q rest (a.put o.dst (.slice (some ⟨g, 0, none⟩) (n + m) cap)) w') : wpList P ops Q (o :: rest) a w := by
  obtain ⟨g, cap, w', h2, h3, h4, h5, h6, _, _⟩ := exec_push ho hk0 hk1 hi ht hzs hsz v n xs hs hown ad m c news hx hl hnews h1 hm h63 hbytes
  exact wpList_val hg h2 (h g cap w' h3 h4 h5 h6)
theorem wpList_push2 (hg : o.guard = none) {s x : Operand} {t : TypeId} (ho : o.op = .call { callee := .builtin .append, args := #[s, x], argTypes := #[t, t] })
    {S : Nat → Prop} {w0 w1 : World} (hk0 : Keep S w0 w1) (hk1 : Keep (fun _ => False) w1 w) {e : TypeId} {size bytes : Nat} {z : Value} (hi : (P.info? e).map (fun i => (i.zero, i.size, i.bytes)) = some (some z, size, bytes)) (ht : P.underlying t = some (.slice e))
    (hzs : z.cells.size = size) (hsz : 0 < size)
    (v : Value) (n : Nat) (xs : List Value) (hs : a.eval s = v) (hown : w1.ownsRow w0.heap.size e size v n xs)
    (ad : Addr) (m c : Nat) (news : List Value) (hx : a.eval x = .slice (some ad) m c) (hl : news.length = m * size) (hnews : ∀ j u, news[j]? = some u → w.cell? (ad.add j) = some u) (h1 : ∀ u ∈ news, u.oneCell' = true)
    (hm : 0 < m) (h63 : n + m ≤ maxLen) (hbytes : (n + m) * bytes ≤ 140737488355328)
    (h : ∀ g cap w', w'.ownsRow w0.heap.size e size (.slice (some ⟨g, 0, none⟩) (n + m) cap) (n + m) (xs ++ news) → Keep S w0 w' → w0.heap.size ≤ g → g < w'.heap.size → Keep (fun b => v.ownBlock = some b) w w' →
      wpList P ops Q rest (a.put o.dst (.slice (some ⟨g, 0, none⟩) (n + m) cap)) w') : wpList P ops Q (o :: rest) a w := by
  obtain ⟨g, cap, w', h2, h3, h4, h5, h6, h7, _⟩ := exec_push ho hk0 hk1 hi ht hzs hsz v n xs hs hown ad m c news hx hl hnews h1 hm h63 hbytes
  exact wpList_val hg h2 (h g cap w' h3 h4 h5 h6 h7)
theorem step_push {K : Act → World → Prop} {E : Prop} (hg : o.guard = none) {s x : Operand} {t : TypeId} (ho : o.op = .call { callee := .builtin .append, args := #[s, x], argTypes := #[t, t] })
    {S : Nat → Prop} {w0 w1 : World} (hk0 : Keep S w0 w1) (hk1 : Keep (fun _ => False) w1 w) {e : TypeId} {size bytes : Nat} {z : Value} (hi : (P.info? e).map (fun i => (i.zero, i.size, i.bytes)) = some (some z, size, bytes)) (ht : P.underlying t = some (.slice e))
    (hzs : z.cells.size = size) (hsz : 0 < size)
    (v : Value) (n : Nat) (xs : List Value) (hs : a.eval s = v) (hown : w1.ownsRow w0.heap.size e size v n xs)
    (ad : Addr) (m c : Nat) (news : List Value) (hx : a.eval x = .slice (some ad) m c) (hl : news.length = m * size) (hnews : ∀ j u, news[j]? = some u → w.cell? (ad.add j) = some u) (h1 : ∀ u ∈ news, u.oneCell' = true)
    (hm : 0 < m) (h63 : n + m ≤ maxLen) (hbytes : (n + m) * bytes ≤ 140737488355328)
    (h : ∀ g cap w', w'.ownsRow w0.heap.size e size (.slice (some ⟨g, 0, none⟩) (n + m) cap) (n + m) (xs ++ news) → Keep S w0 w' → w0.heap.size ≤ g → g < w'.heap.size →
      K (a.put o.dst (.slice (some ⟨g, 0, none⟩) (n + m) cap)) w') :
    if Region.wanted o (yielded ops a.tmps) = true then Oper.wp P o a w K Q else E := by
  have hw : Region.wanted o (yielded ops a.tmps) = true := by simp [Region.wanted, hg]
  rw [if_pos hw]
  obtain ⟨g, cap, w', h2, h3, h4, h5, h6, _, _⟩ := exec_push ho hk0 hk1 hi ht hzs hsz v n xs hs hown ad m c news hx hl hnews h1 hm h63 hbytes
  unfold Oper.wp
  rw [h2]
  exact h g cap w' h3 h4 h5 h6
theorem wpList_make0 (hg : o.guard = none) (l c : Operand) (t : TypeId) (hop : o.op = Op.makeSlice t l c) {S : Nat → Prop} {w0 : World} (hk : Keep S w0 w) {e : TypeId} {size bytes : Nat} {z : Value}
    (hi : (P.info? e).map (fun i => (i.zero, i.size, i.bytes)) = some (some z, size, bytes)) (ht : P.underlying t = some (.slice e))
    (kl kc : IntKind) (C : Int) (n : Nat) (hl : a.eval l = .int kl 0) (hc : a.eval c = .int kc C) (hC : C = (n : Int)) (b2 : bytes * n ≤ 281474976710656) (b3 : n ≤ maxLen)
    (hK : ∀ w', w'.ownsRow w0.heap.size e size (.slice (some ⟨w.heap.size, 0, none⟩) 0 n) 0 [] → Keep S w0 w' → w.heap.size < w'.heap.size → wpList P ops Q rest (a.put o.dst (.slice (some ⟨w.heap.size, 0, none⟩) 0 n)) w') :
    wpList P ops Q (o :: rest) a w := by
  obtain ⟨i, hi', hz, hsize, hby⟩ := info_parts hi
  refine wpList_make_own w hg l c t hop w0.heap.size e i z size ht hi' hz hsize kl kc C n hl hc hC (by rw [hby]; exact b2) b3 hk.size ?_
  intro w' h1 h2
  have hlt : w.heap.size < w'.heap.size := by
    obtain ⟨_, h | ⟨g, cap, cur, hv, _, hh, _⟩⟩ := h1
    · cases h.1
    · cases hv; exact lt_of_get hh
  exact hK w' h1 (hk.grown h2 (fun k h => by cases h)) hlt
end
end Go.V
end
/- A range over a map, with the entry that it stands at (over any program). -/
section
namespace Go.V
open Go.RowKit Go.ChangeMaps
theorem run_next_ent {P : Program} {w : World} {r m : Nat} {kvs rest : KV} (h : Rng w r m kvs rest) (ty : TypeId) :
    (rest = [] ∧ (Instr.next (.pointer (some ⟨r, 0, none⟩)) false ty).run P w = .ok (.tuple #[.bool false]) w) ∨
    ∃ k v w', (k, v) ∈ rest ∧ (Instr.next (.pointer (some ⟨r, 0, none⟩)) false ty).run P w = .ok (.tuple #[.bool true, .int .i64 k, v]) w' ∧
      Rng w' r m kvs (kdel rest k) ∧ Keep (fun b => b = r) w w' ∧ w'.heap.size = w.heap.size ∧
      (Instr.entry (.pointer (some ⟨r, 0, none⟩))).run P w' = .ok (.tuple #[.int .i64 k, v]) w' := by
  have hne := h.ne
  obtain ⟨es, c, seen, hm, hr, hi, hl⟩ := h
  have h1 : (getObj r).run P w = .ok (.mapIter (some m) c seen c) w := by simp [getObj, Sem.run, hi]
  have h2 := run_getObj (P := P) hm
  have hborn : ∀ e ∈ es.toList, e.born < c := hr.2.2.2
  have hall : (!seen.isEmpty && !es.isEmpty && es.all (fun e => decide (e.born ≥ c))) = false := by
    cases hes : es.isEmpty with
    | true => simp
    | false =>
      have hx : ∃ e, e ∈ es := by
        have : es.size ≠ 0 := by simpa using hes
        exact ⟨es[0], Array.getElem_mem _⟩
      obtain ⟨e, he⟩ := hx
      have : es.all (fun e => decide (e.born ≥ c)) = false := by
        rw [Array.all_eq_false']
        exact ⟨e, he, by have := hborn e (Array.mem_toList_iff.2 he); simpa using this⟩
      simp [this]
  have hold : (es.filter fun e => !seen.contains e.born).filter (fun e => decide (e.born < c)) = es.filter fun e => !seen.contains e.born := by
    apply Array.filter_eq_self.2
    intro e he
    simp only [Array.mem_filter] at he
    simpa using hborn e (Array.mem_toList_iff.2 he.1)
  have hnew : (es.filter fun e => !seen.contains e.born).filter (fun e => decide (e.born ≥ c)) = #[] := by
    apply Array.filter_eq_empty_iff.2
    intro e he
    simp only [Array.mem_filter] at he
    have := hborn e (Array.mem_toList_iff.2 he.1)
    simp; omega
  have hrun : (Instr.next (.pointer (some ⟨r, 0, none⟩)) false ty).run P w =
      ((choose (.mapNext ((if (es.filter fun e : MapEntry => !seen.contains e.born).isEmpty then #[none] else #[]) ++ (es.filter fun e : MapEntry => !seen.contains e.born).map some).size)).run P w).andThen fun n w' =>
        Sem.run P (match ((if (es.filter fun e => !seen.contains e.born).isEmpty then #[none] else #[]) ++ (es.filter fun e => !seen.contains e.born).map some)[n]? with
          | some (some e) => do
            setObj r (.mapIter (some m) c (seen.push e.born) c)
            pure (.tuple #[.bool true, e.key, e.val])
          | some none => pure (.tuple #[.bool false])
          | none => stuck "Next: no such candidate") w' := by
    unfold Instr.next
    simp only [Sem.run_bind, h1, Result.andThen_ok, h2, hall, Bool.false_eq_true, if_false, hold, hnew, Array.append_empty]
    rfl
  generalize hL : (es.filter fun e => !seen.contains e.born) = L at hrun
  have hLl : L.toList = es.toList.filter fun e => !seen.contains e.born := by rw [← hL]; simp
  rw [← hLl] at hl
  cases hLe : L.isEmpty with
  | true =>
    left
    have hL0 : L = #[] := by simpa using hLe
    subst hL0
    have hrest : rest = [] := by simpa using hl.symm
    refine ⟨hrest, ?_⟩
    rw [hrun]
    simp [choose, Sem.run, Question.forced]
  | false =>
    right
    rw [hLe] at hrun
    simp only [Bool.false_eq_true, if_false, Array.empty_append, Array.size_map] at hrun
    have hpos : 0 < L.size := by
      have : L.size ≠ 0 := by simpa using hLe
      omega
    have hch : ∃ n w1, n < L.size ∧ (choose (.mapNext L.size)).run P w = .ok n w1 ∧ w1.heap = w.heap ∧ w1.os = w.os ∧ w1.tape = w.tape ∧ w1.output = w.output := by
      by_cases hf : L.size ≤ 1
      · exact ⟨0, w, hpos, by simp [choose, Sem.run, Question.forced, hf], rfl, rfl, rfl, rfl⟩
      · refine ⟨w.tape w.drawn (.mapNext L.size) % L.size, w.drew, Nat.mod_lt _ hpos, ?_, rfl, rfl, rfl, rfl⟩
        simp [choose, Sem.run, Question.forced, hf, Question.cut]
    obtain ⟨n, w1, hn, hc, g1, g2, g3, g4⟩ := hch
    rw [hc] at hrun
    simp only [Result.andThen_ok, Array.getElem?_map, Array.getElem?_eq_getElem hn, Option.map_some] at hrun
    have hx : (rest[n]?).map (fun p => (Value.int .i64 p.1, p.2)) = some (L[n].key, L[n].val) := by
      have := congrArg (·[n]?) hl
      simp only [List.getElem?_map] at this
      rw [← this]
      simp [hn]
    cases hrn : rest[n]? with
    | none => rw [hrn] at hx; simp at hx
    | some p =>
      rw [hrn] at hx
      simp only [Option.map_some, Option.some.injEq, Prod.mk.injEq] at hx
      refine ⟨p.1, p.2, { w1 with heap := w1.heap.setIfInBounds r (.mapIter (some m) c (seen.push L[n].born) c) }, List.mem_of_getElem? hrn, ?_, ?_, ?_, ?_, ?_⟩
      · rw [hrun, hx.1, hx.2]
        simp [Sem.run_bind, setObj, Sem.run, g1, hi]
      · have hrl : r < w.heap.size := lt_of_get hi
        refine ⟨es, c, seen.push L[n].born, ?_, hr, ?_, ?_⟩
        · simp only [g1]; rw [Array.getElem?_setIfInBounds_ne hne]; exact hm
        · simp [g1, hrl]
        · rw [filter_filter_ne, ← hLl]
          have hLmem : L[n] ∈ es.toList := by
            have : L[n] ∈ L.toList := by simp
            rw [hLl] at this
            exact (List.mem_filter.1 this).1
          have hkey : ∀ (l : List MapEntry) (q : KV), l.map (fun e => (e.key, e.val)) = q.map (fun p => (Value.int .i64 p.1, p.2)) → (∀ e ∈ l, e ∈ es.toList) →
              (l.filter fun e => e.born != L[n].born).map (fun e => (e.key, e.val)) = (kdel q p.1).map (fun p => (Value.int .i64 p.1, p.2)) := by
            intro l
            induction l with
            | nil => intro q hq _; cases q with | nil => rfl | cons => simp at hq
            | cons e l ih =>
              intro q hq hmem
              cases q with
              | nil => simp at hq
              | cons x q =>
                simp only [List.map_cons, List.cons.injEq, Prod.mk.injEq] at hq
                have ih' := ih q hq.2 fun e he => hmem e (List.mem_cons_of_mem _ he)
                have heq : (e.born = L[n].born) ↔ x.1 = p.1 := by
                  constructor
                  · intro hb
                    have : e = L[n] := by
                      have hnd := hr.2.2.1
                      exact nodup_map_inj hnd (hmem e (List.mem_cons_self ..)) hLmem hb
                    rw [this, ← hx.1] at hq
                    have := hq.1.1
                    simpa using this.symm
                  · intro hxp
                    have hk1 : e.key = L[n].key := by rw [hq.1.1, ← hx.1, hxp]
                    have : e = L[n] := hr.key_inj (hmem e (List.mem_cons_self ..)) hLmem hk1
                    rw [this]
                unfold kdel at ih' ⊢
                by_cases hb : e.born = L[n].born
                · have h1 : (e.born != L[n].born) = false := by simpa using hb
                  have h2 : (!(x.1 == p.1)) = false := by simpa using heq.1 hb
                  simp only [List.filter_cons, h1, h2, Bool.false_eq_true, if_false]; exact ih'
                · have h1 : (e.born != L[n].born) = true := by simpa using hb
                  have h2 : (!(x.1 == p.1)) = true := by simpa using fun hc => hb (heq.2 hc)
                  simp only [List.filter_cons, h1, h2, if_true, List.map_cons, List.cons.injEq, Prod.mk.injEq]
                  exact ⟨⟨hq.1.1, hq.1.2⟩, ih'⟩
          exact hkey _ _ hl fun e he => by rw [hLl] at he; exact (List.mem_filter.1 he).1
      · refine ⟨g2, g3, g4, by simp [g1], fun k _ hkr => ?_⟩
        simp only [g1]; rw [Array.getElem?_setIfInBounds_ne (Ne.symm hkr)]
      · simp [g1]
      · have hrl : r < w.heap.size := lt_of_get hi
        have g1r : (w1.heap.setIfInBounds r (.mapIter (some m) c (seen.push L[n].born) c))[r]? = some (.mapIter (some m) c (seen.push L[n].born) c) := by simp [g1, hrl]
        have g1m : (w1.heap.setIfInBounds r (.mapIter (some m) c (seen.push L[n].born) c))[m]? = some (.map es c) := by rw [Array.getElem?_setIfInBounds_ne hne, g1]; exact hm
        have hLmem : L[n] ∈ es.toList := by
          have : L[n] ∈ L.toList := by simp
          rw [hLl] at this
          exact (List.mem_filter.1 this).1
        have hfind : es.find? (fun e => e.born == L[n].born) = some L[n] := by
          rw [← Array.find?_toList]
          cases hf : es.toList.find? (fun e => e.born == L[n].born) with
          | none => exact absurd (List.find?_eq_none.1 hf _ hLmem) (by simp)
          | some e =>
            have h1 := List.find?_some hf
            have h2 := List.mem_of_find?_eq_some hf
            rw [nodup_map_inj hr.2.2.1 h2 hLmem (by simpa using h1)]
        unfold Instr.entry
        simp [Sem.run_bind, getObj, Sem.run, g1r, g1m, hfind, hx.1, hx.2, Result.andThen]
section
variable {P : Program} {ops : Array Oper} {rest : List Oper} {o : Oper} {a : Act} {Q : Exit → Act → World → Prop} {w : World}
theorem wpList_next_ent (hg : o.guard = none) (it : Operand) (hop : o.op = .next it false) (r mb : Nat) (kvs rest' : KV) (hi : a.eval it = .pointer (some ⟨r, 0, none⟩)) (hR : Rng w r mb kvs rest')
    (h0 : rest' = [] → wpList P ops Q rest (a.put o.dst (.tuple #[.bool false])) w)
    (h1 : ∀ k v w', (k, v) ∈ rest' → Rng w' r mb kvs (kdel rest' k) → Keep (fun b => b = r) w w' → w'.heap.size = w.heap.size →
      (Instr.entry (.pointer (some ⟨r, 0, none⟩))).run P w' = .ok (.tuple #[.int .i64 k, v]) w' → wpList P ops Q rest (a.put o.dst (.tuple #[.bool true, .int .i64 k, v])) w') : wpList P ops Q (o :: rest) a w := by
  rcases run_next_ent (P := P) hR o.type with ⟨e, hrun⟩ | ⟨k, v, w', hm, hrun, g1, g2, g3, g4⟩
  · refine wpList_val hg ?_ (h0 e)
    unfold execOp; rw [hop]
    simp [hi, Sem.run_bind, hrun]
  · refine wpList_val hg ?_ (h1 k v w' hm g1 g2 g3 g4)
    unfold execOp; rw [hop]
    simp [hi, Sem.run_bind, hrun]
end
end Go.V
end
/- A block of rows, each of its own: what stores and appends leave of it (over any program). -/
section
namespace Go.V
open Go.RowKit
theorem owns_keep {w w' : World} {b e s n : Nat} {v : Value} {xs : List Value} {S : Nat → Prop} (h : w.ownsRow b e s v n xs) (hk : Keep S w w') (hn : ∀ g, v.ownBlock = some g → ¬ S g) : w'.ownsRow b e s v n xs := by
  obtain ⟨h1, h2⟩ := h
  refine ⟨h1, ?_⟩
  rcases h2 with h2 | ⟨g, cap, cur, hv, hb, hh, h3⟩
  · exact .inl h2
  · exact .inr ⟨g, cap, cur, hv, hb, hk.get hh (hn g (by rw [hv]; rfl)), h3⟩
theorem owns_lift {w : World} {b b' e s n : Nat} {v : Value} {xs : List Value} (h : w.ownsRow b e s v n xs) (hl : ∀ g, v.ownBlock = some g → b' ≤ g) : w.ownsRow b' e s v n xs := by
  obtain ⟨h1, h2⟩ := h
  refine ⟨h1, ?_⟩
  rcases h2 with h2 | ⟨g, cap, cur, hv, hb, h3⟩
  · exact .inl h2
  · exact .inr ⟨g, cap, cur, hv, hl g (by rw [hv]; rfl), h3⟩
structure DAt (te ts : TypeId) (enc : Int → Value) (w : World) (db lo : Nat) (D : List (List Int)) (cs : Array Value) (lv : Value) : Prop where
  blk : w.heap[db]? = some (.cells cs ts (0, 0))
  size : cs.size = D.length
  low : db < lo ∧ lo ≤ w.heap.size
  row : ∀ (j : Nat) l, D[j]? = some l → ∃ v, cs[j]? = some v ∧ w.ownsRow lo te 1 v l.length (l.map enc)
  apart : ∀ (i j : Nat) vi vj g, i ≠ j → cs[i]? = some vi → cs[j]? = some vj → vi.ownBlock = some g → vj.ownBlock ≠ some g
  far : ∀ (j : Nat) v g, cs[j]? = some v → v.ownBlock = some g → lv.ownBlock ≠ some g
section
variable {te ts : TypeId} {enc : Int → Value} {w w1 w' : World} {db lo : Nat} {D : List (List Int)} {cs : Array Value} {lv : Value}
theorem DAt.some_row (h : DAt te ts enc w db lo D cs lv) {j : Nat} {v : Value} (hv : cs[j]? = some v) : ∃ l, D[j]? = some l := by
  have : j < cs.size := (Array.getElem?_eq_some_iff.1 hv).1
  exact ⟨_, List.getElem?_eq_getElem (by rw [← h.size]; exact this)⟩
theorem DAt.own_lt (h : DAt te ts enc w db lo D cs lv) {j : Nat} {v : Value} (hv : cs[j]? = some v) {g : Nat} (hg : v.ownBlock = some g) : lo ≤ g ∧ g < w.heap.size := by
  obtain ⟨l, hl⟩ := h.some_row hv
  obtain ⟨v', h1, h2⟩ := h.row j l hl
  rw [hv] at h1; cases h1
  exact h2.lt g hg
theorem DAt.keep {S : Nat → Prop} (h : DAt te ts enc w db lo D cs lv) (hk : Keep S w w') (h1 : ¬ S db) (h2 : ∀ b, lo ≤ b → b < w.heap.size → ¬ S b) : DAt te ts enc w' db lo D cs lv :=
  ⟨hk.get h.blk h1, h.size, ⟨h.low.1, Nat.le_trans h.low.2 hk.size⟩, fun j l hl => let ⟨v, a, b⟩ := h.row j l hl; ⟨v, a, owns_keep b hk fun g hg => h2 g (h.own_lt a hg).1 (h.own_lt a hg).2⟩, h.apart, h.far⟩
theorem DAt.keepF (h : DAt te ts enc w db lo D cs lv) (hk : Keep (fun _ => False) w w') : DAt te ts enc w' db lo D cs lv := h.keep hk (fun h => h) (fun _ _ _ h => h)
theorem DAt.grow {lv' : Value} (h : DAt te ts enc w db lo D cs lv) (hk : Keep (fun b => lv.ownBlock = some b) w w') (hdb : lv.ownBlock ≠ some db) (hg : lv'.ownBlock = lv.ownBlock ∨ lv'.ownBlock = some w.heap.size) : DAt te ts enc w' db lo D cs lv' :=
  ⟨hk.get h.blk hdb, h.size, ⟨h.low.1, Nat.le_trans h.low.2 hk.size⟩, fun j l hl => let ⟨v, a, b⟩ := h.row j l hl; ⟨v, a, owns_keep b hk fun g hg => h.far j v g a hg⟩, h.apart, fun j v g hv hgv => by
    rcases hg with e | e
    · rw [e]; exact h.far j v g hv hgv
    · rw [e]; intro e2; cases e2; exact absurd (h.own_lt hv hgv).2 (Nat.lt_irrefl _)⟩
theorem DAt.put {S : Nat → Prop} (h : DAt te ts enc w db lo D cs lv) {j : Nat} {v v' : Value} {m : List Int} (hv : cs[j]? = some v) (hk : Keep S w w1) (hS : ∀ b, S b → v.ownBlock = some b) (hr : w1.ownsRow lo te 1 v' m.length (m.map enc))
    (hg : v'.ownBlock = v.ownBlock ∨ v'.ownBlock = some w.heap.size) (hlv : ∀ g, lv.ownBlock = some g → g < w.heap.size) : DAt te ts enc (w1.setCell ⟨db, j, none⟩ v') db lo (D.set j m) (cs.setIfInBounds j v') lv := by
  have hjs : j < cs.size := (Array.getElem?_eq_some_iff.1 hv).1
  have hjd : j < D.length := by rw [← h.size]; exact hjs
  have hnd : ¬ S db := fun hs => by have := (h.own_lt hv (hS _ hs)).1; have := h.low.1; omega
  have hk2 : Keep (fun b => b = db) w1 (w1.setCell ⟨db, j, none⟩ v') := (Keep.refl _ _).setCell (a := ⟨db, j, none⟩) _ (fun _ => rfl)
  have hnew : ∀ i x, i ≠ j → cs[i]? = some x → ∀ g, x.ownBlock = some g → v'.ownBlock ≠ some g := fun i x hi hx g hgx => by
    rcases hg with e | e
    · rw [e]; exact h.apart i j x v g hi hx hv hgx
    · rw [e]; intro e2; cases e2; exact absurd (h.own_lt hx hgx).2 (Nat.lt_irrefl _)
  have hat : ∀ i, (cs.setIfInBounds j v')[i]? = if j = i then some v' else cs[i]? := fun i => by
    rw [Array.getElem?_setIfInBounds]
    split
    · rename_i e; subst e; simp [hjs]
    · rfl
  have hneo : ∀ g, v'.ownBlock = some g → g ≠ db := fun g hgv e => by
    have := (hr.lt g hgv).1
    have := h.low.1
    omega
  refine ⟨heapV_setCell (hk.get h.blk hnd) j v', by simp [h.size], ⟨h.low.1, by simpa using Nat.le_trans h.low.2 hk.size⟩, fun i l hl => ?_, fun a b va vb g hab ha hb hga => ?_, fun i x g hx hgx => ?_⟩
  · rw [List.getElem?_set] at hl
    rw [hat]
    by_cases e : j = i
    · subst e
      rw [if_pos rfl] at hl ⊢
      have : m = l := by simpa [hjd] using hl
      subst this
      exact ⟨v', rfl, owns_keep hr hk2 hneo⟩
    · rw [if_neg e] at hl ⊢
      obtain ⟨x, a, b⟩ := h.row i l hl
      refine ⟨x, a, owns_keep (owns_keep b hk fun g hg hs => ?_) hk2 fun g hg => ?_⟩
      · exact h.apart i j x v g (fun e' => e e'.symm) a hv hg (hS _ hs)
      · have := (h.own_lt a hg).1
        have := h.low.1
        show ¬ g = db
        omega
  · rw [hat] at ha hb
    split at ha
    · cases ha
      split at hb
      · omega
      · rename_i e1 e2
        intro e3
        exact hnew b vb (fun e => e2 e.symm) hb g e3 hga
    · split at hb
      · cases hb
        rename_i e1 e2
        exact hnew a va (fun e => e1 e.symm) ha g hga
      · exact h.apart a b va vb g hab ha hb hga
  · rw [hat] at hx
    split at hx
    · cases hx
      rcases hg with e | e
      · rw [e] at hgx; exact h.far j v g hv hgx
      · rw [e] at hgx; cases hgx; intro e2; exact absurd (hlv _ e2) (Nat.lt_irrefl _)
    · exact h.far i x g hx hgx
theorem DAt.pop (h : DAt te ts enc w db lo D cs lv) {j g n cap : Nat} {l : List Int} {x : Int} (hD : D[j]? = some (l ++ [x])) (hn : l.length = n) (hv : cs[j]? = some (.slice (some ⟨g, 0, none⟩) (n + 1) cap)) (hlv : ∀ g, lv.ownBlock = some g → g < w.heap.size) :
    DAt te ts enc (w.setCell ⟨db, j, none⟩ (.slice (some ⟨g, 0, none⟩) n cap)) db lo (D.set j l) (cs.setIfInBounds j (.slice (some ⟨g, 0, none⟩) n cap)) lv := by
  obtain ⟨v, h1, h2⟩ := h.row j _ hD
  rw [hv] at h1; cases h1
  refine h.put hv (S := fun _ => False) (Keep.refl _ _) (fun _ h => h.elim) ?_ (.inl rfl) hlv
  subst hn
  rw [show (l ++ [x]).length = l.length + 1 by simp, List.map_append] at h2
  exact ownsRow_pop (by simp) h2
theorem DAt.strike (h : DAt te ts enc w db lo D cs lv) {j g n cap i : Nat} {l : List Int} {x y : Int} (hD : D[j]? = some l) (hi : l[i]? = some x) (hy : l[n]? = some y) (hn : l.length = n + 1) (hv : cs[j]? = some (.slice (some ⟨g, 0, none⟩) (n + 1) cap)) (hlv : ∀ g, lv.ownBlock = some g → g < w.heap.size) :
    DAt te ts enc ((w.setCell ⟨g, i, none⟩ (enc y)).setCell ⟨db, j, none⟩ (.slice (some ⟨g, 0, none⟩) n cap)) db lo (D.set j (Go.V.strike l i)) (cs.setIfInBounds j (.slice (some ⟨g, 0, none⟩) n cap)) lv := by
  obtain ⟨v, h1, h2⟩ := h.row j _ hD
  rw [hv] at h1; cases h1
  rw [hn] at h2
  have hs := (h2.stored i (enc y)).1
  refine h.put (w1 := w.setCell ⟨g, i, none⟩ (enc y)) hv (S := fun b => b = g) ((Keep.refl _ _).setCell (a := ⟨g, i, none⟩) _ (fun _ => rfl)) (fun b hb => by rw [hb]; rfl) ?_ (.inl rfl) hlv
  have hlast : l.getLastD 0 = y := by
    rw [List.getLastD_eq_getLast?, List.getLast?_eq_getElem?, hn, Nat.add_sub_cancel, hy]; rfl
  have hlen : (Go.V.strike l i).length = n := by rw [strike_length, hn]; rfl
  rw [hlen]
  have hm : (l.map enc).set i (enc y) = ((Go.V.strike l i).map enc) ++ [((l.set i y).map enc).getD n .nilFunc] := by
    have e1 : (l.map enc).set i (enc y) = (l.set i y).map enc := by rw [List.map_set]
    rw [e1]
    have e2 : l.set i y = Go.V.strike l i ++ [(l.set i y).getD n 0] := by
      unfold Go.V.strike
      rw [hlast]
      have hne : l.set i y ≠ [] := by intro e; have := congrArg List.length e; simp at this; rw [this] at hn; simp at hn
      conv => lhs; rw [← List.dropLast_concat_getLast hne]
      congr 1
      rw [List.getLast_eq_getElem]
      simp [hn, List.getD_eq_getElem?_getD]
    conv => lhs; rw [e2, List.map_append]
    congr 1
    rw [List.map_singleton]
    congr 1
    rw [List.getD_eq_getElem?_getD, List.getD_eq_getElem?_getD, List.getElem?_map]
    have : n < (l.set i y).length := by simp [hn]
    rw [List.getElem?_eq_getElem this]; rfl
  rw [hm] at hs
  exact ownsRow_pop (by simp [hlen]) hs
end
end Go.V
end
/- append(s, make([]T, k)...) onto a row of one's own (the builtin takes the number k), cells of one word (over any program). -/
section
namespace Go.V
open Go.RowKit
section
variable {P : Program} {ops : Array Oper} {rest : List Oper} {o : Oper} {a : Act} {Q : Exit → Act → World → Prop} {w : World}
theorem run_zeros_room (k : Nat) (t tn ty e : TypeId) (i : TypeInfo) (z : Value) (kq kn : IntKind) (ht : P.underlying t = some (.slice e)) (htn : P.underlying tn = some (.int kn)) (hi : P.info? e = some i) (hz : i.zero = some z) (hsize : i.size = 1) (hzs : z.cells.size = 1) (hz1 : ∀ u ∈ (Builtin.zeroCells z.cells k).toList, u.oneCell' = true)
    (g n cap : Nat) (cur : Array Value) (hg : w.heap[g]? = some (.cells cur e (0, 0))) (h0 : 0 < k) (hroom : n + k ≤ cap) (hfit : n + k ≤ cur.size) (h63 : ((n + k : Nat) : Int) ≤ 9223372036854775807) (h48 : k * i.bytes ≤ 281474976710656) :
    (Builtin.append_ #[t, tn] ty #[.slice (some ⟨g, 0, none⟩) n cap, .int kq k]).run P w =
      .ok (.slice (some ⟨g, 0, none⟩) (n + k) cap) (w.setRow g (cur.toList.take n ++ (Builtin.zeroCells z.cells k).toList ++ cur.toList.drop (n + k)).toArray) := by
  have hzl : (Builtin.zeroCells z.cells k).toList.length = k := by simp [size_zeroCells, hzs]
  have hst := run_storeCells_at P g n e (Builtin.zeroCells z.cells k).toList 0 cur w hg (by rw [hzl]; simpa using hfit) hz1
  simp only [Nat.add_zero, hzl] at hst
  have hk : k ≠ 0 := by omega
  have hw : IntKind.i64.wrap (k : Int) = k := by rw [IntKind.wrap_i64]; omega
  have h48i : ¬ (281474976710656 < (k : Int) * (i.bytes : Int)) := by
    rw [← Int.natCast_mul]
    omega
  have hneg : ¬ ((k : Int) < 0) := by omega
  simp [Builtin.append_, run_underlying ht, run_underlying htn, sizeOf, typeInfo, zeroValue, hi, hz, hsize, asInt, asIntOf, hw, hneg, hk, h48i, hroom, Addr.add_lit, hst]
theorem run_zeros_own (base : Nat) (t tn ty e : TypeId) (i : TypeInfo) (z : Value) (kq kn : IntKind) (ht : P.underlying t = some (.slice e)) (htn : P.underlying tn = some (.int kn)) (hi : P.info? e = some i) (hz : i.zero = some z) (hsize : i.size = 1) (hzs : z.cells.size = 1) (hz1 : z.cells[0]!.oneCell' = true)
    (g n cap k : Nat) (xs : List Value) (h : w.ownsRow base e 1 (.slice (some ⟨g, 0, none⟩) n cap) n xs) (h0 : 0 < k) (hb : base ≤ w.heap.size) (h63 : n + k ≤ 1000000) (hby : i.bytes ≤ 1000) :
    ∃ g' cap' w', (Builtin.append_ #[t, tn] ty #[.slice (some ⟨g, 0, none⟩) n cap, .int kq k]).run P w = .ok (.slice (some ⟨g', 0, none⟩) (n + k) cap') w' ∧
      w'.ownsRow base e 1 (.slice (some ⟨g', 0, none⟩) (n + k) cap') (n + k) (xs ++ List.replicate k z.cells[0]!) ∧ Keep (fun b => b = g) w w' ∧ (g' = g ∨ g' = w.heap.size) := by
  have hzall : ∀ u ∈ (Builtin.zeroCells z.cells k).toList, u.oneCell' = true := by
    intro u hu
    obtain ⟨j, hj⟩ := List.mem_iff_getElem?.1 hu
    simp only [Builtin.zeroCells, Array.toList_map, Array.toList_range, List.getElem?_map, hzs, Nat.mul_one, Nat.mod_one] at hj
    obtain ⟨_, _, rfl⟩ := Option.map_eq_some_iff.1 hj
    exact hz1
  have hzr : (Builtin.zeroCells z.cells k).toList = List.replicate k z.cells[0]! := by
    apply List.ext_getElem?
    intro j
    simp only [Builtin.zeroCells, Array.toList_map, Array.toList_range, List.getElem?_map, hzs, Nat.mul_one, Nat.mod_one, List.getElem?_replicate]
    by_cases hj : j < k
    · rw [List.getElem?_range hj, if_pos hj]; rfl
    · rw [List.getElem?_eq_none (by simpa using hj), if_neg hj]; rfl
  have hbk : k * i.bytes ≤ 1000000 * 1000 := Nat.mul_le_mul (by omega) hby
  have holds := h.cells (g := g) rfl
  obtain ⟨hl, h2⟩ := h
  rcases h2 with ⟨h', _⟩ | ⟨g', cap', cur, h', hbg, hg, hnc, hcm, hcs, htake⟩
  · cases h'
  cases h'
  rw [Nat.mul_one] at hl hcs htake
  by_cases hroom : n + k ≤ cap
  · have hr := run_zeros_room (P := P) (w := w) k t tn ty e i z kq kn ht htn hi hz hsize hzs hzall g n cap cur hg h0 hroom (by omega) (by omega) (by omega)
    have hzl : (Builtin.zeroCells z.cells k).toList.length = k := by simp [size_zeroCells, hzs]
    refine ⟨g, cap, _, hr, ⟨by simp [hl], .inr ⟨g, cap, _, rfl, hbg, setRow_heap w g cur _ e _ hg, hroom, hcm, ?_, ?_⟩⟩, keep_setRow _ _ _, .inl rfl⟩
    · simp only [Nat.mul_one, List.size_toArray, List.length_take, List.length_append, hzl, List.length_drop, Array.length_toList]
      omega
    · rw [Nat.mul_one, htake, hzr, List.take_append_of_le_length (by simp [hl]), List.take_of_length_le (by simp [hl])]
  · have hold : (Builtin.firstCells i.size n (.slice (some ⟨g, 0, none⟩) n cap)).run P w.drew = .ok xs.toArray w.drew := by
      rw [hsize]
      exact run_firstCells_some (P := P) w.drew 1 n ⟨g, 0, none⟩ n cap xs (by omega) holds
    have hnb : (n + k) * i.bytes ≤ 1000000 * 1000 := Nat.mul_le_mul h63 hby
    have hfit : Builtin.nextslicecap (n + k) cap * i.bytes ≤ 281474976710656 := growslice_fits (by omega) (by omega)
    have hr := Lib.run_append_grow_zeros (P := P) w t tn ty e i z kq kn ht htn hi hz (some ⟨g, 0, none⟩) n cap xs hold k h0 (by omega) (by omega) (by omega) (by omega) (by omega)
    have hge := grownCap_ge w (n + k) cap e
    have hcm2 : grownCap w (n + k) cap e ≤ maxLen := grownCap_le_maxLen w (n + k) cap e (by unfold maxLen; omega)
    refine ⟨w.heap.size, _, _, hr, ⟨by simp [hl], .inr ⟨_, _, _, rfl, hb, heap_alloc_new w.drew _, hge, hcm2, ?_, ?_⟩⟩, ((Keep.refl _ w).drew).alloc _, .inr rfl⟩
    · simp only [Nat.mul_one, Array.size_append, List.size_toArray, size_zeroCells, hzs, hl]
      omega
    · simp only [Nat.mul_one, Array.toList_append, hzr]
      rw [List.take_append_of_le_length (by simp [hl]), List.take_of_length_le (by simp [hl])]
theorem wpList_zeros (hg : o.guard = none) {s x : Operand} {t tn : TypeId} (ho : o.op = .call { callee := .builtin .append, args := #[s, x], argTypes := #[t, tn] })
    (base : Nat) {e : TypeId} {bytes : Nat} {z : Value} (hi : (P.info? e).map (fun i => (i.zero, i.size, i.bytes)) = some (some z, 1, bytes)) (ht : P.underlying t = some (.slice e)) {kn : IntKind} (htn : P.underlying tn = some (.int kn)) (hzs : z.cells.size = 1) (hz1 : z.cells[0]!.oneCell' = true) (hby : bytes ≤ 1000)
    (g n cap k : Nat) (K : Int) (kq : IntKind) (xs : List Value) (hs : a.eval s = .slice (some ⟨g, 0, none⟩) n cap) (hx : a.eval x = .int kq K) (hK : K = (k : Int)) (h : w.ownsRow base e 1 (.slice (some ⟨g, 0, none⟩) n cap) n xs) (h0 : 0 < k) (hb : base ≤ w.heap.size) (h63 : n + k ≤ 1000000)
    (hC : ∀ g' cap' w', w'.ownsRow base e 1 (.slice (some ⟨g', 0, none⟩) (n + k) cap') (n + k) (xs ++ List.replicate k z.cells[0]!) → Keep (fun b => b = g) w w' → (g' = g ∨ g' = w.heap.size) → wpList P ops Q rest (a.put o.dst (.slice (some ⟨g', 0, none⟩) (n + k) cap')) w') : wpList P ops Q (o :: rest) a w := by
  obtain ⟨i, hi', hz, hsize, hby'⟩ := info_parts hi
  obtain ⟨g', cap', w', hr, h1, h2, h3⟩ := run_zeros_own (P := P) (w := w) base t tn o.type e i z kq kn ht htn hi' hz hsize hzs hz1 g n cap k xs h h0 hb h63 (by omega)
  subst hK
  exact wpList_val hg (run_append_op ho hs hx hr) (hC g' cap' w' h1 h2 h3)
end
end Go.V
end
