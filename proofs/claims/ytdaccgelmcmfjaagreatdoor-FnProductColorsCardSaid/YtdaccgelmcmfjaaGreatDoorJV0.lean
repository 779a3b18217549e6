/- The base of this seat's proofs, over any program: what a call leaves as it was; maps with whole numbers for keys; a region whose order is open, each operation looked at once. -/
import Derived.WalkKit
import Derived.WalkLawsBesides
import Derived.WalkSpells
import Derived.Orders
import Derived.Deep.AppendLies
import Derived.Deep.QuietTactic
import Derived.BigQuiet
import Derived.Lib.Hide
set_option linter.all false
section
namespace Go.V
open Go.RowKit
/-! ## What a call leaves as it was -/
structure Keep (S : Nat → Prop) (w w' : World) : Prop where
  os : w'.os = w.os
  tape : w'.tape = w.tape
  output : w'.output = w.output
  size : w.heap.size ≤ w'.heap.size
  block : ∀ k, k < w.heap.size → ¬ S k → w'.heap[k]? = w.heap[k]?
namespace Keep
variable {S T : Nat → Prop} {w w' w'' : World}
theorem refl (S : Nat → Prop) (w : World) : Keep S w w := ⟨rfl, rfl, rfl, Nat.le_refl _, fun _ _ _ => rfl⟩
theorem mono (h : Keep S w w') (hst : ∀ k, k < w.heap.size → S k → T k) : Keep T w w' := ⟨h.os, h.tape, h.output, h.size, fun k hk hn => h.block k hk fun hs => hn (hst k hk hs)⟩
theorem trans (h : Keep S w w') (h' : Keep T w' w'') (hst : ∀ k, k < w.heap.size → T k → S k) : Keep S w w'' :=
  ⟨h'.os.trans h.os, h'.tape.trans h.tape, h'.output.trans h.output, Nat.le_trans h.size h'.size, fun k hk hn =>
    (h'.block k (Nat.lt_of_lt_of_le hk h.size) fun ht => hn (hst k hk ht)).trans (h.block k hk hn)⟩
theorem drew (h : Keep S w w') : Keep S w w'.drew := ⟨h.os, h.tape, h.output, h.size, h.block⟩
theorem drewN (h : Keep S w w') (n : Nat) : Keep S w (w'.drewN n) := ⟨h.os, h.tape, h.output, h.size, h.block⟩
theorem alloc (h : Keep S w w') (o : Obj) : Keep S w (w'.alloc o) :=
  h.trans (T := fun _ => False) ⟨rfl, rfl, rfl, by simp, fun k hk _ => Below.heap_alloc _ _ _ hk⟩ (fun _ _ h => h.elim)
theorem setCell (h : Keep S w w') {a : Addr} (u : Value) (ha : a.block < w.heap.size → S a.block) : Keep S w (w'.setCell a u) :=
  h.trans (T := fun k => k = a.block) ⟨rfl, rfl, rfl, by simp [World.setCell], fun k _ hn => Below.heap_setCell _ _ _ _ hn⟩ (fun k hk e => by subst e; exact ha hk)
theorem setBlock (h : Keep S w w') {b : Nat} (o : Obj) (hb : b < w.heap.size → S b) : Keep S w (Go.ChangeMaps.setBlock w' b o) :=
  h.trans (T := fun k => k = b) ⟨rfl, rfl, rfl, by simp [Go.ChangeMaps.setBlock], fun k _ hn => by
    simp [Go.ChangeMaps.setBlock, Array.getElem?_setIfInBounds, Ne.symm hn]⟩ (fun k hk e => by subst e; exact hb hk)
theorem grown (h : Keep S w w') {row : Option Nat} (hg : w'.grownBy w'' row) (hr : ∀ k, row = some k → k < w.heap.size → S k) : Keep S w w'' :=
  h.trans (T := fun k => row = some k) ⟨hg.os, hg.tape, hg.output, hg.size, fun k hk hn => hg.block k hk fun e => hn e.symm⟩ (fun k hk e => hr k e hk)
theorem get (h : Keep S w w') {b : Nat} {o : Obj} (hb : w.heap[b]? = some o) (hn : ¬ S b) : w'.heap[b]? = some o := by
  rw [h.block b (Array.getElem?_eq_some_iff.1 hb).1 hn]; exact hb
theorem cell (h : Keep S w w') {a : Addr} (ha : a.block < w.heap.size) (hn : ¬ S a.block) : w'.cell? a = w.cell? a := World.cell?_of_block (w := w) (h.block _ ha hn)
theorem frozen (h : Keep S w w') {a : Addr} (ha : a.block < w.heap.size) (hn : ¬ S a.block) : w'.frozen? a = w.frozen? a := World.frozen?_of_block (w := w) (h.block _ ha hn)
theorem below (h : Keep (fun _ => False) w w') : Below w.heap.size w w' := ⟨h.os, h.tape, h.output, h.size, fun k hk => h.block k hk (fun h => h)⟩
end Keep
theorem lt_of_get {w : World} {b : Nat} {o : Obj} (h : w.heap[b]? = some o) : b < w.heap.size := (Array.getElem?_eq_some_iff.1 h).1
theorem keep_of_below {w w' : World} (h : Below w.heap.size w w') : Keep (fun _ => False) w w' := ⟨h.os, h.tape, h.output, h.size, fun k hk _ => h.block k hk⟩
theorem heap_new (w : World) (o : Obj) : (w.alloc o).heap[w.heap.size]? = some o := by show (w.heap.push o)[w.heap.size]? = _; simp
theorem heap_old {w : World} {o : Obj} {b : Nat} (h : b < w.heap.size) : (w.alloc o).heap[b]? = w.heap[b]? := Below.heap_alloc _ _ _ h
theorem heap_setBlock_same {w : World} {b : Nat} {o : Obj} (h : b < w.heap.size) : (Go.ChangeMaps.setBlock w b o).heap[b]? = some o := by
  simp [Go.ChangeMaps.setBlock, h]
theorem heap_setBlock_other {w : World} {b c : Nat} {o : Obj} (h : c ≠ b) : (Go.ChangeMaps.setBlock w b o).heap[c]? = w.heap[c]? := by
  simp [Go.ChangeMaps.setBlock, Array.getElem?_setIfInBounds, Ne.symm h]
theorem cell_of {w : World} {b : Nat} {cs : Array Value} {t : TypeId} {fr : Nat × Nat} (h : w.heap[b]? = some (.cells cs t fr)) (i : Nat) : w.cell? ⟨b, i, none⟩ = cs[i]? := by
  simp [World.cell?, h]
theorem free_of {w : World} {b : Nat} {cs : Array Value} {t : TypeId} (h : w.heap[b]? = some (.cells cs t (0, 0))) (i : Nat) : w.frozen? ⟨b, i, none⟩ = false := by
  simp [World.frozen?, h]
theorem heapV_setCell {w : World} {b : Nat} {cs : Array Value} {t : TypeId} {fr : Nat × Nat} (h : w.heap[b]? = some (.cells cs t fr)) (i : Nat) (v : Value) : (w.setCell ⟨b, i, none⟩ v).heap[b]? = some (.cells (cs.setIfInBounds i v) t fr) := by
  simp only [World.setCell]; rw [Array.getElem?_modify]; simp [h]
/-! ## Maps with whole numbers for keys -/
abbrev KV := List (Int × Value)
def kget (kvs : KV) (k : Int) : Option Value := (kvs.find? (fun p => p.1 == k)).map (·.2)
def kput (kvs : KV) (k : Int) (v : Value) : KV :=
  if kvs.any (fun p => p.1 == k) then kvs.map (fun p => if p.1 == k then (k, v) else p) else kvs ++ [(k, v)]
def kdel (kvs : KV) (k : Int) : KV := kvs.filter (fun p => !(p.1 == k))
def Rep (es : Array MapEntry) (clock : Nat) (kvs : KV) : Prop :=
  es.toList.map (fun e => (e.key, e.val)) = kvs.map (fun p => (Value.int .i64 p.1, p.2)) ∧ (kvs.map (·.1)).Nodup ∧
  (es.toList.map (·.born)).Nodup ∧ ∀ e ∈ es.toList, e.born < clock
def MapAt (w : World) (m : Nat) (kvs : KV) : Prop := ∃ es clock, w.heap[m]? = some (.map es clock) ∧ Rep es clock kvs
theorem findNow_rep (k : Int) : ∀ (es : List MapEntry) (kvs : KV) (i : Nat),
    es.map (fun e => (e.key, e.val)) = kvs.map (fun p => (Value.int .i64 p.1, p.2)) →
    Instr.findNow (.int .i64) (.int .i64 k) es i = some ((kvs.findIdx? (fun p => p.1 == k)).map fun j => (i + j, ((kvs[j]?).map (·.2)).getD default))
  | [], [], i, _ => rfl
  | e :: es, p :: kvs, i, h => by
    simp only [List.map_cons, List.cons.injEq, Prod.mk.injEq] at h
    obtain ⟨⟨h1, h2⟩, h3⟩ := h
    have ih := findNow_rep k es kvs (i + 1) h3
    unfold Instr.findNow
    rw [h1]
    simp only [Instr.sameNow, if_true]
    by_cases hk : p.1 = k
    · subst hk; simp [h2, List.findIdx?_cons]
    · have : (k == p.1) = false := by simp; exact fun h => hk h.symm
      have h' : (p.1 == k) = false := by simpa using hk
      simp only [this, ih, List.findIdx?_cons, h', Bool.false_eq_true, if_false]
      congr 1
      cases hh : kvs.findIdx? (fun p => p.1 == k) with
      | none => simp
      | some j => simp; omega
  | [], _ :: _, _, h => by simp at h
  | _ :: _, [], _, h => by simp at h
theorem kget_findIdx (kvs : KV) (k : Int) : (kvs.findIdx? (fun p => p.1 == k)).map (fun j => ((kvs[j]?).map (·.2)).getD default) = kget kvs k := by
  unfold kget
  induction kvs with
  | nil => rfl
  | cons p kvs ih =>
    rw [List.findIdx?_cons, List.find?_cons]
    by_cases hk : p.1 = k
    · simp [hk]
    · have h' : (p.1 == k) = false := by simpa using hk
      simp only [h', Bool.false_eq_true, if_false]
      rw [← ih]
      simp [Option.map_map, Function.comp_def]
theorem run_checkKey_int {P : Program} {K : TypeId} (hK : P.underlying K = some (.int .i64)) (b : Bool) (k : Int) (w : World) :
    (Instr.checkKey b 10000 K (.int .i64 k)).run P w = .ok () w := by
  unfold Instr.checkKey
  simp [underlying, program, Sem.run_bind, hK, Sem.run]
theorem run_findKey_int {P : Program} {K : TypeId} (hK : P.underlying K = some (.int .i64)) (k : Int) (es : List MapEntry) (kvs : KV)
    (h : es.map (fun e => (e.key, e.val)) = kvs.map (fun p => (Value.int .i64 p.1, p.2))) (w : World) :
    (Instr.findKey K (.int .i64 k) es).run P w = .ok ((kvs.findIdx? (fun p => p.1 == k)).map fun j => (j, ((kvs[j]?).map (·.2)).getD default)) w := by
  unfold Instr.findKey
  simp only [underlying, program, Sem.run_bind, Sem.run, hK, Result.andThen_ok]
  simp [findNow_rep k es kvs 0 h]
theorem run_getObj {P : Program} {w : World} {m : Nat} {es : Array MapEntry} {c : Nat} (h : w.heap[m]? = some (.map es c)) : (getObj m).run P w = .ok (.map es c) w := by
  simp [getObj, Sem.run, h]
theorem run_setObj {P : Program} {w : World} {m : Nat} {es : Array MapEntry} {c : Nat} (h : w.heap[m]? = some (.map es c)) (o : Obj) : (setObj m o).run P w = .ok () { w with heap := w.heap.setIfInBounds m o } := by
  simp [setObj, Sem.run, h]
theorem run_lookup_int {P : Program} {T K E : TypeId} (hT : P.underlying T = some (.map K E)) (hK : P.underlying K = some (.int .i64))
    {w : World} {m : Nat} {kvs : KV} (h : MapAt w m kvs) (k : Int) {z : Value} (hz : (zeroValue E).run P w = .ok z w) (ok : Bool) :
    (Instr.lookup T (.map (some m)) (.int .i64 k) ok).run P w =
      .ok (if ok then .tuple #[(kget kvs k).getD z, .bool (kget kvs k).isSome] else (kget kvs k).getD z) w := by
  obtain ⟨es, c, hm, hr, -⟩ := h
  have h1 := run_getObj (P := P) hm
  have h2 := fun b => run_checkKey_int (P := P) hK b k w
  have h3 := run_findKey_int (P := P) hK k es.toList kvs hr w
  rw [← kget_findIdx]
  unfold Instr.lookup
  cases hh : kvs.findIdx? (fun p => p.1 == k) with
  | none => rw [hh] at h3; cases ok <;> simp [underlying, program, Sem.run_bind, Sem.run, hT, h1, h2, h3, hz, Result.andThen]
  | some j => rw [hh] at h3; cases ok <;> simp [underlying, program, Sem.run_bind, Sem.run, hT, h1, h2, h3, Result.andThen]
end Go.V
end
/- Maps with whole numbers for keys: their operations (over any program). -/
section
namespace Go.V
open Go.RowKit Go.ChangeMaps
theorem Rep.nil : Rep #[] 0 [] := ⟨rfl, by simp, by simp, by simp⟩
theorem MapAt.made (w : World) : MapAt (w.alloc (.map #[] 0)) w.heap.size [] := ⟨#[], 0, heap_new _ _, Rep.nil⟩
theorem MapAt.lt {w : World} {m : Nat} {kvs : KV} (h : MapAt w m kvs) : m < w.heap.size := by obtain ⟨_, _, h, _⟩ := h; exact lt_of_get h
theorem MapAt.keep {w w' : World} {m : Nat} {kvs : KV} {S : Nat → Prop} (h : MapAt w m kvs) (hk : Keep S w w') (hn : ¬ S m) : MapAt w' m kvs := by
  obtain ⟨es, c, h1, h2⟩ := h; exact ⟨es, c, hk.get h1 hn, h2⟩
theorem MapAt.nodup {w : World} {m : Nat} {kvs : KV} (h : MapAt w m kvs) : (kvs.map (·.1)).Nodup := by obtain ⟨_, _, _, _, h, _⟩ := h; exact h
theorem MapAt.of_heap {w w' : World} {m : Nat} {kvs : KV} (h : MapAt w m kvs) (he : w'.heap[m]? = w.heap[m]?) : MapAt w' m kvs := by
  obtain ⟨es, c, h1, h2⟩ := h; exact ⟨es, c, by rw [he]; exact h1, h2⟩
theorem kany_iff (kvs : KV) (k : Int) : kvs.any (fun p => p.1 == k) = (kvs.findIdx? (fun p => p.1 == k)).isSome := by
  induction kvs with
  | nil => rfl
  | cons p kvs ih =>
    rw [List.any_cons, List.findIdx?_cons, ih]
    by_cases h : p.1 = k
    · simp [h]
    · have : (p.1 == k) = false := by simpa using h
      simp [this]
theorem kput_modify (k : Int) (v : Value) : ∀ (kvs : KV) (j : Nat), (kvs.map (·.1)).Nodup → kvs.findIdx? (fun p => p.1 == k) = some j →
    kvs.map (fun p => if p.1 == k then (k, v) else p) = kvs.modify j (fun _ => (k, v))
  | [], j, _, h => by simp at h
  | p :: kvs, j, hn, h => by
    rw [List.findIdx?_cons] at h
    simp only [List.map_cons, List.nodup_cons] at hn
    by_cases hk : p.1 = k
    · have hb : (p.1 == k) = true := by simpa using hk
      simp only [hb, if_true, Option.some.injEq] at h
      subst h
      simp only [List.map_cons, hb, if_true, List.modify_zero_cons, List.cons.injEq, true_and]
      rw [List.map_congr_left (g := id)]
      · simp
      · intro q hq
        have : q.1 ≠ k := fun e => hn.1 (List.mem_map.2 ⟨q, hq, by rw [e, hk]⟩)
        have : (q.1 == k) = false := by simpa using this
        simp [this]
    · have hb : (p.1 == k) = false := by simpa using hk
      simp only [hb, Bool.false_eq_true, if_false, Option.map_eq_some_iff] at h
      obtain ⟨i, hi, rfl⟩ := h
      simp only [List.map_cons, hb, Bool.false_eq_true, if_false, List.modify_succ_cons, List.cons.injEq, true_and]
      exact kput_modify k v kvs i hn.2 hi
theorem keys_put_map (kvs : KV) (k : Int) (v : Value) : (kvs.map (fun p => if p.1 == k then (k, v) else p)).map (·.1) = kvs.map (·.1) := by
  rw [List.map_map]
  apply List.map_congr_left
  intro p _
  by_cases h : p.1 = k
  · simp [h]
  · simp [h]
theorem kput_nodup {kvs : KV} (h : (kvs.map (·.1)).Nodup) (k : Int) (v : Value) : ((kput kvs k v).map (·.1)).Nodup := by
  unfold kput
  split
  · rw [keys_put_map]; exact h
  · rename_i hn
    simp only [List.map_append, List.map_cons, List.map_nil]
    rw [List.nodup_append]
    refine ⟨h, by simp, ?_⟩
    intro a ha b hb
    simp only [List.mem_singleton] at hb
    subst hb
    intro e
    subst e
    obtain ⟨p, hp, he⟩ := List.mem_map.1 ha
    exact hn (List.any_eq_true.2 ⟨p, hp, by simp [he]⟩)
theorem findIdx_lt {kvs : KV} {k : Int} {j : Nat} (h : kvs.findIdx? (fun p => p.1 == k) = some j) : ∃ v, kvs[j]? = some (k, v) := by
  have := List.findIdx?_eq_some_iff_getElem.1 h
  obtain ⟨h1, h2, _⟩ := this
  refine ⟨(kvs[j]).2, ?_⟩
  rw [List.getElem?_eq_getElem h1]
  have e : (kvs[j]).1 = k := by simpa using h2
  rw [← e]
theorem Rep.modify {es : Array MapEntry} {c : Nat} {kvs : KV} (h : Rep es c kvs) {k : Int} {j : Nat} (hj : kvs.findIdx? (fun p => p.1 == k) = some j) (v : Value) :
    Rep (es.modify j fun e => { e with key := .int .i64 k, val := v }) c (kput kvs k v) := by
  obtain ⟨h1, h2, h3, h4⟩ := h
  have hl : (es.modify j fun e => { e with key := Value.int .i64 k, val := v }).toList = es.toList.modify j fun e => { e with key := Value.int .i64 k, val := v } := by
    simp
  refine ⟨?_, kput_nodup h2 k v, ?_, ?_⟩
  · rw [hl]
    unfold kput
    rw [kany_iff, hj]
    simp only [Option.isSome_some, if_true]
    rw [kput_modify k v kvs j h2 hj, ]
    apply List.ext_getElem?
    intro i
    have hi := congrArg (·[i]?) h1
    simp only [List.getElem?_map, List.getElem?_modify] at hi ⊢
    by_cases e : j = i
    · subst e
      obtain ⟨u, hu⟩ := findIdx_lt hj
      rw [hu] at hi ⊢
      simp only [Option.map_some] at hi ⊢
      cases hh : es.toList[j]? with
      | none => rw [hh] at hi; simp at hi
      | some x => simp
    · cases hx : es.toList[i]? <;> cases hy : kvs[i]? <;> simp_all
  · rw [hl]
    have : (es.toList.modify j fun e => { e with key := Value.int .i64 k, val := v }).map (·.born) = es.toList.map (·.born) := by
      apply List.ext_getElem?
      intro i
      rw [List.getElem?_map, List.getElem?_map, List.getElem?_modify]
      cases es.toList[i]? with
      | none => rfl
      | some x => by_cases e : j = i <;> simp [e]
    rw [this]; exact h3
  · intro e he
    rw [hl] at he
    obtain ⟨i, hi⟩ := List.mem_iff_getElem?.1 he
    rw [List.getElem?_modify] at hi
    cases hx : es.toList[i]? with
    | none => rw [hx] at hi; simp at hi
    | some x =>
      rw [hx] at hi
      simp only [Option.map_eq_map, Option.map_some, Option.some.injEq] at hi
      have := h4 x (List.mem_of_getElem? hx)
      subst hi
      split <;> exact this
theorem Rep.push {es : Array MapEntry} {c : Nat} {kvs : KV} (h : Rep es c kvs) {k : Int} (hj : kvs.findIdx? (fun p => p.1 == k) = none) (v : Value) :
    Rep (es.push { key := .int .i64 k, val := v, born := c }) (c + 1) (kput kvs k v) := by
  obtain ⟨h1, h2, h3, h4⟩ := h
  have hk : kput kvs k v = kvs ++ [(k, v)] := by unfold kput; rw [kany_iff, hj]; simp
  refine ⟨by rw [hk]; simp [h1], kput_nodup h2 k v, ?_, ?_⟩
  · simp only [Array.toList_push, List.map_append, List.map_cons, List.map_nil, List.nodup_append]
    refine ⟨h3, by simp, ?_⟩
    intro a ha b hb
    simp only [List.mem_singleton] at hb
    obtain ⟨e, he, rfl⟩ := List.mem_map.1 ha
    have := h4 e he
    omega
  · intro e he
    simp only [Array.toList_push, List.mem_append, List.mem_singleton] at he
    rcases he with he | rfl
    · have := h4 e he; omega
    · exact Nat.lt_succ_self _
theorem run_update_int {P : Program} {T K E : TypeId} (hT : P.underlying T = some (.map K E)) (hK : P.underlying K = some (.int .i64))
    {w : World} {m : Nat} {kvs : KV} (h : MapAt w m kvs) (k : Int) (v : Value) :
    ∃ es c, (Instr.mapUpdate T (.map (some m)) (.int .i64 k) v).run P w = .ok () (setBlock w m (.map es c)) ∧ Rep es c (kput kvs k v) := by
  obtain ⟨es, c, hm, hr⟩ := h
  have h1 := run_getObj (P := P) hm
  have h2 := fun b => run_checkKey_int (P := P) hK b k w
  have h3 := run_findKey_int (P := P) hK k es.toList kvs hr.1 w
  have h4 := fun o => run_setObj (P := P) hm o
  unfold Instr.mapUpdate
  cases hh : kvs.findIdx? (fun p => p.1 == k) with
  | none =>
    rw [hh] at h3
    exact ⟨_, _, by simp [underlying, program, Sem.run_bind, Sem.run, hT, h1, h2, h3, h4, Result.andThen]; rfl, hr.push hh v⟩
  | some j =>
    rw [hh] at h3
    have hkey : ((es[j]?).map (·.key)).getD (.int .i64 k) = .int .i64 k := by
      obtain ⟨u, hu⟩ := findIdx_lt hh
      have := congrArg (·[j]?) hr.1
      simp only [List.getElem?_map, hu, Option.map_some] at this
      cases hx : es[j]? with
      | none => rfl
      | some x =>
        rw [show es.toList[j]? = some x by simpa using hx] at this
        simp only [Option.map_some, Option.some.injEq, Prod.mk.injEq] at this
        simp [this.1]
    have h5 : (Instr.keyThatStays (.int .i64 k) (.int .i64 k)).run P w = .ok (.int .i64 k) w := by
      unfold Instr.keyThatStays
      simp [Instr.sameBits, Sem.run]
    refine ⟨_, _, ?_, hr.modify hh v⟩
    simp [underlying, program, Sem.run_bind, Sem.run, hT, h1, h2, h3, h4, h5, hkey, Result.andThen]
    rfl
theorem eraseIdx_map' {α β : Type} (f : α → β) (l : List α) (j : Nat) : (l.map f).eraseIdx j = (l.eraseIdx j).map f := by
  simp [List.eraseIdx_eq_take_drop_succ]
theorem nodup_map_inj {α β : Type} {f : α → β} : ∀ {l : List α}, (l.map f).Nodup → ∀ {x y : α}, x ∈ l → y ∈ l → f x = f y → x = y
  | z :: l, h, x, y, hx, hy, e => by
    simp only [List.map_cons, List.nodup_cons] at h
    rcases List.mem_cons.1 hx with rfl | hx' <;> rcases List.mem_cons.1 hy with rfl | hy'
    · rfl
    · exact absurd (List.mem_map.2 ⟨y, hy', e.symm⟩) h.1
    · exact absurd (List.mem_map.2 ⟨x, hx', e⟩) h.1
    · exact nodup_map_inj h.2 hx' hy' e
theorem Rep.key_inj {es : Array MapEntry} {c : Nat} {kvs : KV} (h : Rep es c kvs) {x y : MapEntry} (hx : x ∈ es.toList) (hy : y ∈ es.toList) (e : x.key = y.key) : x = y := by
  have : (es.toList.map (·.key)).Nodup := by
    have h1 : es.toList.map (·.key) = kvs.map (fun p => Value.int .i64 p.1) := by
      have := congrArg (List.map Prod.fst) h.1
      simpa [List.map_map, Function.comp_def] using this
    rw [h1]
    have h2 := h.2.1
    rw [show kvs.map (fun p => Value.int .i64 p.1) = (kvs.map (·.1)).map (Value.int .i64) by simp [List.map_map, Function.comp_def]]
    exact List.Pairwise.map _ (fun a b hab hc => hab (by simpa using hc)) h2
  exact nodup_map_inj this hx hy e
theorem filter_erase {α : Type} (g : α → Int) (k : Int) : ∀ (l : List α) (j : Nat), (l.map g).Nodup → l.findIdx? (fun p => g p == k) = some j → l.filter (fun p => !(g p == k)) = l.eraseIdx j
  | [], j, _, h => by simp at h
  | p :: l, j, hn, h => by
    rw [List.findIdx?_cons] at h
    simp only [List.map_cons, List.nodup_cons] at hn
    by_cases hk : g p = k
    · have hb : (g p == k) = true := by simpa using hk
      simp only [hb, if_true, Option.some.injEq] at h
      subst h
      simp only [List.filter_cons, hb, Bool.not_true, Bool.false_eq_true, if_false, List.eraseIdx_zero, List.tail_cons]
      rw [List.filter_eq_self]
      intro q hq
      have : g q ≠ k := fun e => hn.1 (List.mem_map.2 ⟨q, hq, by rw [e, hk]⟩)
      simpa using this
    · have hb : (g p == k) = false := by simpa using hk
      simp only [hb, Bool.false_eq_true, if_false, Option.map_eq_some_iff] at h
      obtain ⟨i, hi, rfl⟩ := h
      have := filter_erase g k l i hn.2 hi
      simp [List.filter_cons, hb, this]
def keyInt (e : MapEntry) : Int := match e.key with | .int _ n => n | _ => 0
theorem keyInt_rep {es : List MapEntry} {kvs : KV} (h : es.map (fun e => (e.key, e.val)) = kvs.map (fun p => (Value.int .i64 p.1, p.2))) : es.map keyInt = kvs.map (·.1) := by
  have := congrArg (List.map fun q : Value × Value => match q.1 with | .int _ n => n | _ => 0) h
  rw [List.map_map, List.map_map] at this
  exact this
theorem findIdx_map {α : Type} (g : α → Int) (k : Int) (l : List α) : l.findIdx? (fun p => g p == k) = (l.map g).findIdx? (· == k) := by
  rw [List.findIdx?_map]; rfl
theorem strike_rep (k : Int) : ∀ (l : List MapEntry) (q : KV), l.map (fun e => (e.key, e.val)) = q.map (fun p => (Value.int .i64 p.1, p.2)) →
    (l.filter fun e => !(keyInt e == k)).map (fun e => (e.key, e.val)) = (kdel q k).map (fun p => (Value.int .i64 p.1, p.2))
  | [], [], _ => rfl
  | e :: l, x :: q, h => by
    simp only [List.map_cons, List.cons.injEq, Prod.mk.injEq] at h
    have ih := strike_rep k l q h.2
    have hk : keyInt e = x.1 := by simp [keyInt, h.1.1]
    unfold kdel at ih ⊢
    by_cases hb : x.1 = k
    · have h1 : (x.1 == k) = true := by simpa using hb
      simp only [List.filter_cons, hk, h1, Bool.not_true, Bool.false_eq_true, if_false]; exact ih
    · have h1 : (x.1 == k) = false := by simpa using hb
      simp only [List.filter_cons, hk, h1, Bool.not_false, if_true, List.map_cons, List.cons.injEq, Prod.mk.injEq]
      exact ⟨⟨h.1.1, h.1.2⟩, ih⟩
  | [], _ :: _, h => by simp at h
  | _ :: _, [], h => by simp at h
theorem Rep.erase {es : Array MapEntry} {c : Nat} {kvs : KV} (h : Rep es c kvs) {k : Int} {j : Nat} (hj : kvs.findIdx? (fun p => p.1 == k) = some j) :
    Rep (es.eraseIdxIfInBounds j) c (kdel kvs k) := by
  obtain ⟨h1, h2, h3, h4⟩ := h
  have hlt : j < es.size := by
    have := List.findIdx?_eq_some_iff_getElem.1 hj
    obtain ⟨q, _⟩ := this
    have := congrArg List.length h1
    simp at this
    omega
  have hl : (es.eraseIdxIfInBounds j).toList = es.toList.eraseIdx j := by
    rw [Array.eraseIdxIfInBounds, dif_pos hlt]; simp
  have hd : kdel kvs k = kvs.eraseIdx j := filter_erase (fun p : Int × Value => p.1) k kvs j h2 hj
  refine ⟨?_, ?_, ?_, ?_⟩
  · rw [hl, hd, ← eraseIdx_map', ← eraseIdx_map', h1]
  · unfold kdel; exact (List.filter_sublist.map _).nodup h2
  · rw [hl, ← eraseIdx_map']; exact (List.eraseIdx_sublist _ _).nodup h3
  · intro e he; rw [hl] at he; exact h4 e ((List.eraseIdx_sublist _ _).mem he)
theorem kdel_miss {kvs : KV} {k : Int} (hj : kvs.findIdx? (fun p => p.1 == k) = none) : kdel kvs k = kvs := by
  unfold kdel
  rw [List.filter_eq_self]
  intro p hp
  have := List.findIdx?_eq_none_iff.1 hj p hp
  simp [this]
theorem run_delete_int {P : Program} {T K E : TypeId} (hT : P.underlying T = some (.map K E)) (hK : P.underlying K = some (.int .i64))
    {w : World} {m : Nat} {kvs : KV} (h : MapAt w m kvs) (k : Int) (K' ty : TypeId) :
    ∃ es c, (Builtin.delete_ #[T, K'] ty #[.map (some m), .int .i64 k]).run P w = .ok (.tuple #[]) (setBlock w m (.map es c)) ∧ Rep es c (kdel kvs k) ∧ ∀ es0 c0, w.heap[m]? = some (.map es0 c0) → c = c0 ∧ es.toList = es0.toList.filter (fun e => !(keyInt e == k)) := by
  obtain ⟨es, c, hm, hr⟩ := h
  have h1 := run_getObj (P := P) hm
  have h2 := fun b => run_checkKey_int (P := P) hK b k w
  have h3 := run_findKey_int (P := P) hK k es.toList kvs hr.1 w
  have h4 := fun o => run_setObj (P := P) hm o
  unfold Builtin.delete_
  cases hh : kvs.findIdx? (fun p => p.1 == k) with
  | none =>
    rw [hh] at h3
    refine ⟨es, c, by simp [underlying, program, Sem.run_bind, Sem.run, hT, h1, h2, h3, h4, Result.andThen]; rfl, by rw [kdel_miss hh]; exact hr, ?_⟩
    intro es0 c0 h0; rw [hm] at h0; cases h0
    refine ⟨rfl, ?_⟩
    rw [List.filter_eq_self.2]
    intro e he
    have hx : keyInt e ∈ kvs.map (·.1) := by rw [← keyInt_rep hr.1]; exact List.mem_map.2 ⟨e, he, rfl⟩
    obtain ⟨p, hp, hpe⟩ := List.mem_map.1 hx
    have := List.findIdx?_eq_none_iff.1 hh p hp
    rw [← hpe]; simpa using this
  | some j =>
    rw [hh] at h3
    refine ⟨_, _, by simp [underlying, program, Sem.run_bind, Sem.run, hT, h1, h2, h3, h4, Result.andThen]; rfl, hr.erase hh, ?_⟩
    intro es0 c0 h0; rw [hm] at h0; cases h0
    refine ⟨rfl, ?_⟩
    have hf : es.toList.findIdx? (fun e => keyInt e == k) = some j := by rw [findIdx_map, keyInt_rep hr.1, ← findIdx_map]; exact hh
    rw [filter_erase keyInt k es.toList j (by rw [keyInt_rep hr.1]; exact hr.2.1) hf]
    have hlt : j < es.size := by
      have := (List.findIdx?_eq_some_iff_getElem.1 hf).1
      simpa using this
    rw [Array.eraseIdxIfInBounds, dif_pos hlt]; simp
theorem run_len_int {P : Program} {T K E : TypeId} (hT : P.underlying T = some (.map K E)) {w : World} {m : Nat} {kvs : KV} (h : MapAt w m kvs) (ty : TypeId) :
    (Builtin.len_ #[T] ty #[.map (some m)]).run P w = .ok (.int .i64 kvs.length) w := by
  obtain ⟨es, c, hm, hr⟩ := h
  have h1 := run_getObj (P := P) hm
  have : es.size = kvs.length := by have := congrArg List.length hr.1; simpa using this
  unfold Builtin.len_
  simp [underlying, program, Sem.run_bind, Sem.run, hT, h1, goInt, this]
/-! ### A range over a map: what is left to come -/
def Rng (w : World) (r m : Nat) (kvs rest : KV) : Prop :=
  ∃ es c seen, w.heap[m]? = some (.map es c) ∧ Rep es c kvs ∧ w.heap[r]? = some (.mapIter (some m) c seen c) ∧
    (es.toList.filter fun e => !seen.contains e.born).map (fun e => (e.key, e.val)) = rest.map (fun p => (Value.int .i64 p.1, p.2))
theorem Rng.keep {w w' : World} {r m : Nat} {kvs rest : KV} {S : Nat → Prop} (h : Rng w r m kvs rest) (hk : Keep S w w') (hr : ¬ S r) (hm : ¬ S m) : Rng w' r m kvs rest := by
  obtain ⟨es, c, seen, h1, h2, h3, h4⟩ := h; exact ⟨es, c, seen, hk.get h1 hm, h2, hk.get h3 hr, h4⟩
theorem Rng.map {w : World} {r m : Nat} {kvs rest : KV} (h : Rng w r m kvs rest) : MapAt w m kvs := by
  obtain ⟨es, c, seen, h1, h2, _⟩ := h; exact ⟨es, c, h1, h2⟩
theorem Rng.lt {w : World} {r m : Nat} {kvs rest : KV} (h : Rng w r m kvs rest) : r < w.heap.size := by
  obtain ⟨es, c, seen, h1, h2, h3, _⟩ := h; exact lt_of_get h3
theorem Rng.ne {w : World} {r m : Nat} {kvs rest : KV} (h : Rng w r m kvs rest) : r ≠ m := by
  obtain ⟨es, c, seen, h1, h2, h3, _⟩ := h; rintro rfl; rw [h1] at h3; cases h3
theorem kv_inj {a b : KV} (h : a.map (fun p => (Value.int .i64 p.1, p.2)) = b.map (fun p => (Value.int .i64 p.1, p.2))) : a = b := by
  induction a generalizing b with
  | nil => cases b <;> simp_all
  | cons p a ih =>
    cases b with
    | nil => simp at h
    | cons q b =>
      simp only [List.map_cons, List.cons.injEq, Prod.mk.injEq, Value.int.injEq, true_and] at h
      rw [ih h.2]
      congr 1
      exact Prod.ext h.1.1 h.1.2
theorem Rng.sub {w : World} {r m : Nat} {kvs rest : KV} (h : Rng w r m kvs rest) : rest.Sublist kvs := by
  obtain ⟨es, c, seen, h1, h2, h3, h4⟩ := h
  have hs : (rest.map (fun p => (Value.int .i64 p.1, p.2))).Sublist (kvs.map (fun p => (Value.int .i64 p.1, p.2))) := by
    rw [← h4, ← h2.1]; exact List.filter_sublist.map _
  obtain ⟨l, hl, he⟩ := List.sublist_map_iff.1 hs
  rw [kv_inj he]; exact hl
theorem run_range_int {P : Program} {T K E : TypeId} (hT : P.underlying T = some (.map K E)) {w : World} {m : Nat} {kvs : KV} (h : MapAt w m kvs) :
    ∃ w', (Instr.range T (.map (some m))).run P w = .ok (.pointer (some ⟨w.heap.size, 0, none⟩)) w' ∧ Rng w' w.heap.size m kvs kvs ∧ Keep (fun _ => False) w w' ∧ w'.heap.size = w.heap.size + 1 := by
  obtain ⟨es, c, hm, hr⟩ := h
  have h1 := run_getObj (P := P) hm
  refine ⟨w.alloc (.mapIter (some m) c #[] c), ?_, ⟨es, c, #[], ?_, hr, heap_new _ _, ?_⟩, (Keep.refl _ _).alloc _, by simp⟩
  · unfold Instr.range
    simp [underlying, program, Sem.run_bind, Sem.run, hT, h1, newObj]
  · rw [heap_old (lt_of_get hm)]; exact hm
  · rw [List.filter_eq_self.2 (by simp)]; exact hr.1
theorem filter_filter_ne (l : List MapEntry) (seen : Array Nat) (b : Nat) :
    (l.filter fun e => !(seen.push b).contains e.born) = (l.filter fun e => !seen.contains e.born).filter fun e => e.born != b := by
  rw [List.filter_filter]
  apply List.filter_congr
  intro e _
  simp only [Array.contains_push]
  by_cases h : e.born = b
  · subst h; simp
  · have : (e.born == b) = false := by simpa using h
    simp [this, h]
end Go.V
end
/- The walk's laws in the form that it takes: maps with whole numbers for keys; cells of rows (over any program). -/
section
namespace Go.V
open Go.RowKit Go.ChangeMaps
section
variable {P : Program} {ops : Array Oper} {rest : List Oper} {o : Oper} {a : Act} {Q : Exit → Act → World → Prop} {w : World}
theorem wpList_val (hg : o.guard = none) {v : Value} {w' : World} (hrun : (execOp a.eval o).run P w = .ok (.value v) w') (h : wpList P ops Q rest (a.put o.dst v) w') : wpList P ops Q (o :: rest) a w :=
  wpList_plain hg fun K hK => by unfold Oper.wp; rw [hrun]; exact hK _ _ h
theorem wpList_skip' (hg : o.guard = none) {w' : World} (hrun : (execOp a.eval o).run P w = .ok .skip w') (h : wpList P ops Q rest (a.put o.dst undef) w') : wpList P ops Q (o :: rest) a w :=
  wpList_plain hg fun K hK => by unfold Oper.wp; rw [hrun]; exact hK _ _ h
theorem exec_lookup {t : TypeId} {m x : Operand} {ok : Bool} (hop : o.op = .lookup t m x ok) (ρ : Operand → Value) : execOp ρ o = (do pure (.value (← Instr.lookup t (ρ m) (ρ x) ok))) := by
  unfold execOp; rw [hop]
theorem wpList_lookup_kv (hg : o.guard = none) (m x : Operand) (T : TypeId) (ok : Bool) (hop : o.op = .lookup T m x ok) (K E : TypeId) (hT : P.underlying T = some (.map K E)) (hK : P.underlying K = some (.int .i64))
    (z : Value) (hz : ∀ w, (zeroValue E).run P w = .ok z w) (mb : Nat) (kvs : KV) (k : Int) (hm : a.eval m = .map (some mb)) (hx : a.eval x = .int .i64 k) (hM : MapAt w mb kvs)
    (h : wpList P ops Q rest (a.put o.dst (if ok then .tuple #[(kget kvs k).getD z, .bool (kget kvs k).isSome] else (kget kvs k).getD z)) w) : wpList P ops Q (o :: rest) a w := by
  refine wpList_val hg ?_ h
  rw [exec_lookup hop, hm, hx]
  have := run_lookup_int hT hK hM k (hz w) ok
  simp [Sem.run_bind, this]
theorem wpList_update_kv (hg : o.guard = none) (m x y : Operand) (T : TypeId) (hop : o.op = .mapUpdate T m x y) (K E : TypeId) (hT : P.underlying T = some (.map K E)) (hK : P.underlying K = some (.int .i64))
    (mb : Nat) (kvs : KV) (k : Int) (v : Value) (hm : a.eval m = .map (some mb)) (hx : a.eval x = .int .i64 k) (hy : a.eval y = v) (hM : MapAt w mb kvs)
    (h : ∀ w', MapAt w' mb (kput kvs k v) → Keep (fun b => b = mb) w w' → w'.heap.size = w.heap.size → wpList P ops Q rest (a.put o.dst undef) w') : wpList P ops Q (o :: rest) a w := by
  obtain ⟨es, c, hrun, hr⟩ := run_update_int hT hK hM k v
  refine wpList_skip' hg (w' := setBlock w mb (.map es c)) ?_ (h _ ⟨es, c, heap_setBlock_same hM.lt, hr⟩ ((Keep.refl _ _).setBlock _ (fun _ => rfl)) (by simp [setBlock]))
  unfold execOp; rw [hop]
  simp only [hm, hx, hy]
  simp [Sem.run_bind, hrun]
theorem wpList_delete_kv (hg : o.guard = none) (m x : Operand) (T K' : TypeId) (hop : o.op = .call { callee := .builtin .delete, args := #[m, x], argTypes := #[T, K'] }) (K E : TypeId) (hT : P.underlying T = some (.map K E)) (hK : P.underlying K = some (.int .i64))
    (mb : Nat) (kvs : KV) (k : Int) (hm : a.eval m = .map (some mb)) (hx : a.eval x = .int .i64 k) (hM : MapAt w mb kvs)
    (h : ∀ w', MapAt w' mb (kdel kvs k) → (∀ r rest, Rng w r mb kvs rest → Rng w' r mb (kdel kvs k) (kdel rest k)) → Keep (fun b => b = mb) w w' → w'.heap.size = w.heap.size → wpList P ops Q rest (a.put o.dst (.tuple #[])) w') : wpList P ops Q (o :: rest) a w := by
  obtain ⟨es, c, hrun, hr, hsub⟩ := run_delete_int hT hK hM k K' o.type
  refine wpList_val hg (w' := setBlock w mb (.map es c)) ?_ (h _ ⟨es, c, heap_setBlock_same hM.lt, hr⟩ ?_ ((Keep.refl _ _).setBlock _ (fun _ => rfl)) (by simp [setBlock]))
  · unfold execOp; rw [hop]
    simp [resolve, invoke, builtin, hm, hx, Sem.run_bind, hrun]
  · rintro r rest hR
    have hne := hR.ne
    obtain ⟨es0, c0, seen, h1, h2, h3, h4⟩ := hR
    obtain ⟨rfl, hs⟩ := hsub es0 c0 h1
    refine ⟨es, c, seen, heap_setBlock_same (lt_of_get h1), hr, by rw [heap_setBlock_other hne]; exact h3, ?_⟩
    rw [hs, List.filter_filter, show (fun e : MapEntry => (!seen.contains e.born) && !(keyInt e == k)) = (fun e => (!(keyInt e == k)) && !seen.contains e.born) from funext fun e => Bool.and_comm _ _, ← List.filter_filter]
    exact strike_rep k _ _ h4
theorem wpList_len_kv (hg : o.guard = none) (m : Operand) (T : TypeId) (hop : o.op = .call { callee := .builtin .len, args := #[m], argTypes := #[T] }) (K E : TypeId) (hT : P.underlying T = some (.map K E))
    (mb : Nat) (kvs : KV) (hm : a.eval m = .map (some mb)) (hM : MapAt w mb kvs)
    (h : wpList P ops Q rest (a.put o.dst (.int .i64 kvs.length)) w) : wpList P ops Q (o :: rest) a w := by
  refine wpList_val hg ?_ h
  have := run_len_int hT hM o.type
  unfold execOp; rw [hop]
  simp [resolve, invoke, builtin, hm, Sem.run_bind, this]
theorem wpList_range_kv (hg : o.guard = none) (m : Operand) (T : TypeId) (hop : o.op = .range T m) (K E : TypeId) (hT : P.underlying T = some (.map K E))
    (mb : Nat) (kvs : KV) (hm : a.eval m = .map (some mb)) (hM : MapAt w mb kvs)
    (h : ∀ w', Rng w' w.heap.size mb kvs kvs → Keep (fun _ => False) w w' → w'.heap.size = w.heap.size + 1 → wpList P ops Q rest (a.put o.dst (.pointer (some ⟨w.heap.size, 0, none⟩))) w') : wpList P ops Q (o :: rest) a w := by
  obtain ⟨w', hrun, h1, h2, h3⟩ := run_range_int hT hM
  refine wpList_val hg ?_ (h w' h1 h2 h3)
  unfold execOp; rw [hop]
  simp [hm, Sem.run_bind, hrun]
end
end Go.V
end
/- A region whose order is open: each operation is looked at once (over any program). -/
section
namespace Go.V
section RuleR
variable {P : Program} {ops : Array Oper} {Q : Exit → Act → World → Prop}
def unl (n : Nat) (listed : Array Bool) : List Nat := (List.range n).filter fun i => !listed.getD i true
theorem ready_lt {ops : Array Oper} {listed : Array Bool} {i : Nat} (h : i ∈ Region.ready .any ops listed) : i < ops.size ∧ listed.getD i true = false ∧
    ∃ o, ops[i]? = some o ∧ ∀ e ∈ o.after.toList, Region.binds .any e = true → listed.getD e.on false = true := by
  unfold Region.ready at h
  simp only [List.mem_filter, List.mem_range, Bool.and_eq_true, Bool.not_eq_true'] at h
  obtain ⟨h1, h2, h3⟩ := h
  refine ⟨h1, h2, ops[i], Array.getElem?_eq_getElem h1, ?_⟩
  rw [Array.getElem?_eq_getElem h1] at h3
  simp only [Option.map_some, Option.getD_some] at h3
  intro e he hb
  rw [Array.all_eq_true'] at h3
  have := h3 e (Array.mem_toList_iff.1 he)
  simpa [hb] using this
theorem getD_set (listed : Array Bool) (i j : Nat) (d : Bool) (hi : i < listed.size) : (listed.setIfInBounds i true).getD j d = if j = i then true else listed.getD j d := by
  by_cases e : j = i
  · subst e; simp [hi]
  · simp [Ne.symm e, e]
theorem wpAny_of_inv (Inv : Array Bool → Act → World → Prop)
    (hs : ∀ listed a w i, listed.size = ops.size → i ∈ Region.ready .any ops listed → Inv listed a w → wpOp P ops Q i (Inv (listed.setIfInBounds i true)) a w)
    (hf : ∀ listed a w, listed.size = ops.size → Region.ready .any ops listed = [] → Inv listed a w → Q .normal a w) :
    ∀ (fuel : Nat) (listed : Array Bool) (a : Act) (w : World), listed.size = ops.size → (unl ops.size listed).length ≤ fuel → Inv listed a w → wpAny P .any ops Q fuel listed a w
  | 0, listed, a, w, hsz, hl, hi => by
    have hr : Region.ready .any ops listed = [] := by
      rw [List.eq_nil_iff_forall_not_mem]
      intro i hi'
      have ⟨h1, h2, _⟩ := ready_lt hi'
      have : i ∈ unl ops.size listed := List.mem_filter.2 ⟨List.mem_range.2 h1, by rw [h2]; rfl⟩
      have hn : unl ops.size listed = [] := List.eq_nil_of_length_eq_zero (by omega)
      rw [hn] at this; cases this
    exact ⟨hr, hf listed a w hsz hr hi⟩
  | fuel + 1, listed, a, w, hsz, hl, hi => by
    refine ⟨fun hr => hf listed a w hsz hr hi, fun i hm => ?_⟩
    refine wpOp_mono (fun a' w' h' => ?_) (hs listed a w i hsz hm hi)
    refine wpAny_of_inv Inv hs hf fuel _ a' w' (by simp [hsz]) ?_ h'
    have ⟨h1, h2, _⟩ := ready_lt hm
    have hlt : (unl ops.size (listed.setIfInBounds i true)).length < (unl ops.size listed).length := by
      have hsub : unl ops.size (listed.setIfInBounds i true) = (unl ops.size listed).filter (fun j => j != i) := by
        unfold unl
        rw [List.filter_filter]
        apply List.filter_congr
        intro j _
        rw [getD_set _ _ _ _ (by omega)]
        by_cases e : j = i <;> simp [e]
      rw [hsub]
      refine List.length_filter_lt_length_iff_exists.2 ⟨i, List.mem_filter.2 ⟨List.mem_range.2 h1, by rw [h2]; rfl⟩, by simp⟩
    omega
theorem wp_region_inv {id : Nat} {a : Act} {w : World} (hm : P.follows .mixedOrders = true) (Inv : Array Bool → Act → World → Prop)
    (h0 : Inv (Array.replicate ops.size false) a { w with drawn := w.drawn + 1 })
    (hs : ∀ listed a w i, listed.size = ops.size → i ∈ Region.ready .any ops listed → Inv listed a w → wpOp P ops Q i (Inv (listed.setIfInBounds i true)) a w)
    (hf : ∀ listed a w, listed.size = ops.size → Region.ready .any ops listed = [] → Inv listed a w → Q .normal a w) : (Code.region id ops true).wp P Q a w :=
  wp_region_any hm (wpAny_of_inv Inv hs hf ops.size _ a _ (by simp) (by
    refine Nat.le_trans (List.length_filter_le _ _) (by simp)) h0)
/-! ### The rule: each operation is looked at once -/
def dstOf (ops : Array Oper) (j : Nat) : Option Tmp := (ops[j]?).bind (·.dst)
def valAt (ops : Array Oper) (a : Act) (j : Nat) : Value := match dstOf ops j with | some d => a.tmps.getD d undef | none => undef
def isDst (ops : Array Oper) (t : Nat) : Bool := ops.toList.any fun o => o.dst == some t
def plainR (ops : Array Oper) (n : Nat) : Bool :=
  (ops.toList.zipIdx.all fun (o, i) => o.after.toList.all fun e => !Region.binds .any e || decide (e.on < i)) &&
  decide ((ops.toList.filterMap (·.dst)).Nodup) && (ops.toList.all fun o => match o.dst with | some d => decide (d < n) | none => true)
def putAll (ops : Array Oper) (f : Nat → Value) : Nat → Act → Act
  | 0, a => a
  | n + 1, a => (putAll ops f n a).put (dstOf ops n) (f n)
theorem plainR_back {n : Nat} (h : plainR ops n = true) {i : Nat} {o : Oper} (ho : ops[i]? = some o) {e : Edge} (he : e ∈ o.after.toList) (hb : Region.binds .any e = true) : e.on < i := by
  simp only [plainR, Bool.and_eq_true] at h
  have h1 := h.1.1
  rw [List.all_eq_true] at h1
  have := h1 (o, i) (by rw [List.mem_zipIdx_iff_getElem?]; simpa using ho)
  simp only [List.all_eq_true] at this
  have := this e he
  simpa [hb] using this
theorem plainR_dst {n : Nat} (h : plainR ops n = true) {i d : Nat} (hd : dstOf ops i = some d) : d < n := by
  simp only [plainR, Bool.and_eq_true, List.all_eq_true] at h
  unfold dstOf at hd
  cases ho : ops[i]? with
  | none => simp [ho] at hd
  | some o =>
    simp only [ho, Option.bind_some] at hd
    have := h.2 o (Array.mem_toList_iff.2 (Array.mem_of_getElem? ho))
    simpa [hd] using this
theorem filterMap_nodup {α β : Type} (g : α → Option β) : ∀ (l : List α), (l.filterMap g).Nodup → ∀ (i j : Nat) (x y : α) (b : β), l[i]? = some x → l[j]? = some y → g x = some b → g y = some b → i = j
  | [], _, i, _, _, _, _, hi, _, _, _ => by simp at hi
  | z :: l, hn, i, j, x, y, b, hi, hj, hx, hy => by
    have htail : (l.filterMap g).Nodup := by
      rw [List.filterMap_cons] at hn
      split at hn
      · exact hn
      · exact (List.nodup_cons.1 hn).2
    cases i with
    | zero =>
      cases j with
      | zero => rfl
      | succ j =>
        simp only [List.getElem?_cons_zero, Option.some.injEq] at hi
        subst hi
        simp only [List.getElem?_cons_succ] at hj
        rw [List.filterMap_cons_some hx] at hn
        exact absurd (List.mem_filterMap.2 ⟨y, List.mem_of_getElem? hj, hy⟩) (List.nodup_cons.1 hn).1
    | succ i =>
      cases j with
      | zero =>
        simp only [List.getElem?_cons_zero, Option.some.injEq] at hj
        subst hj
        simp only [List.getElem?_cons_succ] at hi
        rw [List.filterMap_cons_some hy] at hn
        exact absurd (List.mem_filterMap.2 ⟨x, List.mem_of_getElem? hi, hx⟩) (List.nodup_cons.1 hn).1
      | succ j =>
        simp only [List.getElem?_cons_succ] at hi hj
        rw [filterMap_nodup g l htail i j x y b hi hj hx hy]
theorem plainR_inj {n : Nat} (h : plainR ops n = true) {i j d : Nat} (hi : dstOf ops i = some d) (hj : dstOf ops j = some d) : i = j := by
  simp only [plainR, Bool.and_eq_true] at h
  have h2 := of_decide_eq_true h.1.2
  unfold dstOf at hi hj
  cases hx : ops[i]? with
  | none => simp [hx] at hi
  | some x =>
    cases hy : ops[j]? with
    | none => simp [hy] at hj
    | some y =>
      simp only [hx, hy, Option.bind_some] at hi hj
      exact filterMap_nodup _ _ h2 i j x y d (by simpa using hx) (by simpa using hy) hi hj
theorem put_size (a : Act) (x : Option Tmp) (v : Value) : (a.put x v).tmps.size = a.tmps.size := by cases x <;> simp [Act.put]
theorem put_defers (a : Act) (x : Option Tmp) (v : Value) : (a.put x v).defers = a.defers := by cases x <;> rfl
theorem put_get (a : Act) (x : Option Tmp) (v : Value) (t : Nat) (ht : t < a.tmps.size) : (a.put x v).tmps.getD t undef = if x = some t then v else a.tmps.getD t undef := by
  cases x with
  | none => simp [Act.put]
  | some d =>
    by_cases e : d = t
    · subst e; simp [Act.put, ht]
    · simp [Act.put, e]
theorem putAll_size (f : Nat → Value) (a : Act) : ∀ n, (putAll ops f n a).tmps.size = a.tmps.size
  | 0 => rfl
  | n + 1 => by rw [putAll, put_size, putAll_size f a n]
theorem putAll_defers (f : Nat → Value) (a : Act) : ∀ n, (putAll ops f n a).defers = a.defers
  | 0 => rfl
  | n + 1 => by rw [putAll, put_defers, putAll_defers f a n]
theorem putAll_get {m : Nat} (h : plainR ops m = true) (f : Nat → Value) (a : Act) (hm : m ≤ a.tmps.size) (t : Nat) (ht : t < a.tmps.size) : ∀ n,
    (putAll ops f n a).tmps.getD t undef = if ∃ j, j < n ∧ dstOf ops j = some t then (match (List.range n).find? (fun j => dstOf ops j == some t) with | some j => f j | none => undef) else a.tmps.getD t undef
  | 0 => by simp [putAll]
  | n + 1 => by
    rw [putAll, put_get _ _ _ _ (by rw [putAll_size]; exact ht), putAll_get h f a hm t ht n]
    by_cases e : dstOf ops n = some t
    · have hx : ∃ j, j < n + 1 ∧ dstOf ops j = some t := ⟨n, by omega, e⟩
      rw [if_pos e, if_pos hx]
      have : (List.range (n + 1)).find? (fun j => dstOf ops j == some t) = some n := by
        rw [List.range_succ, List.find?_append]
        have hnone : (List.range n).find? (fun j => dstOf ops j == some t) = none := by
          rw [List.find?_eq_none]
          intro j hj
          have hj' := List.mem_range.1 hj
          simp only [beq_iff_eq]
          intro hc
          have := plainR_inj h hc e
          omega
        simp [hnone, e]
      rw [this]
    · rw [if_neg e]
      by_cases hx : ∃ j, j < n ∧ dstOf ops j = some t
      · rw [if_pos hx, if_pos (by obtain ⟨j, h1, h2⟩ := hx; exact ⟨j, by omega, h2⟩)]
        have : (List.range (n + 1)).find? (fun j => dstOf ops j == some t) = (List.range n).find? (fun j => dstOf ops j == some t) := by
          rw [List.range_succ, List.find?_append]
          cases hh : (List.range n).find? (fun j => dstOf ops j == some t) with
          | some j => rfl
          | none =>
            obtain ⟨j, h1, h2⟩ := hx
            rw [List.find?_eq_none] at hh
            have := hh j (List.mem_range.2 h1)
            simp [h2] at this
        rw [this]
      · rw [if_neg hx, if_neg]
        rintro ⟨j, h1, h2⟩
        have : j ≠ n := fun e' => e (e' ▸ h2)
        exact hx ⟨j, by omega, h2⟩
theorem act_ext {a b : Act} (hs : a.tmps.size = b.tmps.size) (hd : a.defers = b.defers) (h : ∀ t, t < a.tmps.size → a.tmps.getD t undef = b.tmps.getD t undef) : a = b := by
  obtain ⟨ta, da⟩ := a
  obtain ⟨tb, db⟩ := b
  simp only at hs hd h
  subst hd
  congr 1
  refine Array.ext hs fun i h1 h2 => ?_
  have := h i h1
  simpa [h1, h2] using this
def depsOf (ops : Array Oper) (j : Nat) : List Nat := match ops[j]? with
  | some o => (o.after.toList.filter (Region.binds .any)).map (·.on)
  | none => []
def cut (ops : Array Oper) (j : Nat) (v : Value) : Value := if (dstOf ops j).isSome then v else undef
def Owes (P : Program) (ops : Array Oper) (Q : Exit → Act → World → Prop) (V : Nat → Value → World → Prop) (R : World → World → Prop) (j : Nat) (a : Act) (w : World) : Prop :=
  wpOp P ops Q j (fun a' w' => ∃ v, a' = a.put (dstOf ops j) v ∧ V j (cut ops j v) w' ∧ R w w') a w
section
variable {V : Nat → Value → World → Prop} {R : World → World → Prop} {j : Nat} {a : Act} {w : World} {o : Oper}
theorem Owes.val (ho : ops[j]? = some o) (hg : o.guard = none) {v : Value} {w' : World} (hrun : (execOp a.eval o).run P w = .ok (.value v) w')
    (hV : V j (cut ops j v) w') (hR : R w w') : Owes P ops Q V R j a w := by
  unfold Owes wpOp
  simp only [ho, Region.wanted, hg, if_true]
  refine .inl ?_
  unfold Oper.wp
  rw [hrun]
  exact ⟨v, by simp [dstOf, ho], hV, hR⟩
theorem Owes.skip (ho : ops[j]? = some o) (hg : o.guard = none) {w' : World} (hrun : (execOp a.eval o).run P w = .ok .skip w')
    (hV : V j undef w') (hR : R w w') : Owes P ops Q V R j a w := by
  unfold Owes wpOp
  simp only [ho, Region.wanted, hg, if_true]
  refine .inl ?_
  unfold Oper.wp
  rw [hrun]
  exact ⟨undef, by simp [dstOf, ho], by simpa [cut] using hV, hR⟩
theorem Owes.call (ho : ops[j]? = some o) (hg : o.guard = none) {f : FuncId} {args : Array Value} {w' : World} (hrun : (execOp a.eval o).run P w = .ok (.enter f args) w')
    (hc : Calls P f args w' fun e w'' => ∃ v, e = .returned v ∧ V j (cut ops j v) w'' ∧ R w w'') : Owes P ops Q V R j a w := by
  unfold Owes wpOp
  simp only [ho, Region.wanted, hg, if_true]
  refine .inl ?_
  unfold Oper.wp
  rw [hrun]
  refine hc.mono ?_
  rintro e w'' ⟨v, rfl, h1, h2⟩
  exact ⟨v, by simp [dstOf, ho], h1, h2⟩
theorem Owes.out (ho : ops[j]? = some o) {g : Nat} {want : Bool} (hg : o.guard = some (g, want)) (hn : yielded ops a.tmps g = some (!want)) (hV : V j undef w) (hR : R w w) : Owes P ops Q V R j a w := by
  unfold Owes wpOp
  have : Region.wanted o (yielded ops a.tmps) = false := by simp [Region.wanted, hg, hn]
  simp only [ho, this]
  exact ⟨undef, by simp [dstOf, ho], by simpa [cut] using hV, hR⟩
end
end RuleR
end Go.V
end
/- Lists of numbers: insertion by exchanges, ascending once each (plain laws, no program in sight). -/
section
namespace Go.V
def Ins (t : List Int) (i k : Nat) : Prop := ∀ a b x y, a < b → b ≤ k → b ≠ i → t[a]? = some x → t[b]? = some y → x ≤ y
def SortTo (t : List Int) (k : Nat) : Prop := ∀ a b x y, a < b → b < k → t[a]? = some x → t[b]? = some y → x ≤ y
def swapAt (t : List Int) (i : Nat) (x y : Int) : List Int := (t.set i y).set (i - 1) x
theorem SortTo.one (t : List Int) : SortTo t 1 := fun a b x y hab hb _ _ => by omega
theorem Ins.zero {t : List Int} {k : Nat} (h : Ins t 0 k) : SortTo t (k + 1) := fun a b x y hab hb hx hy => h a b x y hab (by omega) (by omega) hx hy
theorem Ins.stop {t : List Int} {i k : Nat} {x y : Int} (h : Ins t i k) (hi : 0 < i) (hx : t[i]? = some x) (hy : t[i - 1]? = some y) (hle : y ≤ x) : SortTo t (k + 1) := by
  intro a b u v hab hb hu hv
  by_cases hbi : b = i
  · subst hbi
    rw [hx] at hv; cases hv
    by_cases ha : a = b - 1
    · subst ha; rw [hy] at hu; cases hu; exact hle
    · exact Int.le_trans (h a (b - 1) u y (by omega) (by omega) (by omega) hu hy) hle
  · exact h a b u v hab (by omega) hbi hu hv
theorem Ins.step {t : List Int} {i k : Nat} {x y : Int} (h : Ins t i k) (hi : 0 < i) (hik : i ≤ k) (hx : t[i]? = some x) (hy : t[i - 1]? = some y) (hlt : x < y) : Ins (swapAt t i x y) (i - 1) k := by
  have hli : i < t.length := (List.getElem?_eq_some_iff.1 hx).1
  have hg : ∀ j, (swapAt t i x y)[j]? = if j = i - 1 then some x else if j = i then some y else t[j]? := fun j => by
    unfold swapAt
    rw [List.getElem?_set, List.getElem?_set]
    by_cases h1 : i - 1 = j
    · rw [if_pos h1, if_pos h1.symm, if_pos (by simp; omega)]
    · rw [if_neg h1, if_neg (Ne.symm h1)]
      by_cases h2 : i = j
      · rw [if_pos h2, if_pos h2.symm, if_pos (by omega)]
      · rw [if_neg h2, if_neg (Ne.symm h2)]
  intro a b u v hab hb hne hu hv
  rw [hg] at hu hv
  rw [if_neg hne] at hv
  by_cases hbi : b = i
  · rw [if_pos hbi] at hv; cases hv
    by_cases ha : a = i - 1
    · rw [if_pos ha] at hu; cases hu; omega
    · rw [if_neg ha, if_neg (by omega)] at hu
      exact h a (i - 1) u y (by omega) (by omega) (by omega) hu hy
  · rw [if_neg hbi] at hv
    by_cases ha : a = i - 1
    · rw [if_pos ha] at hu; cases hu
      exact h i b x v (by omega) hb hbi hx hv
    · rw [if_neg ha] at hu
      by_cases ha2 : a = i
      · rw [if_pos ha2] at hu; cases hu
        exact h (i - 1) b y v (by omega) hb hbi hy hv
      · rw [if_neg ha2] at hu
        exact h a b u v hab hb hbi hu hv
theorem swapAt_perm : ∀ (t : List Int) (i : Nat) (x y : Int), 0 < i → t[i]? = some x → t[i - 1]? = some y → (swapAt t i x y).Perm t
  | [], _, _, _, _, h, _ => by simp at h
  | [_], i, _, _, hi, h, _ => by
    have := (List.getElem?_eq_some_iff.1 h).1
    simp at this; omega
  | a :: b :: t, 0, _, _, h, _, _ => absurd h (Nat.lt_irrefl _)
  | a :: b :: t, 1, x, y, _, hx, hy => by
    simp at hx hy
    subst hx; subst hy
    exact List.Perm.swap ..
  | a :: b :: t, i + 2, x, y, _, hx, hy => by
    have := swapAt_perm (b :: t) (i + 1) x y (by omega) (by simpa using hx) (by simpa using hy)
    unfold swapAt at this ⊢
    show (a :: ((b :: t).set (i + 1) y).set (i + 1 - 1) x).Perm _
    exact List.Perm.cons a this
def RiseTo (t : List Int) (k : Nat) : Prop := ∀ j x y, 0 < j → j < k → t[j - 1]? = some x → t[j]? = some y → x < y
end Go.V
end
/- Colourings: what the least number of colours is, the Cartesian product's number (Sabidussi), and how a partial colouring goes on (plain laws, no program in sight). -/
section
namespace Go.V
def Paints (ids : List Int) (adj : Int → Int → Prop) (c : Int → Nat) (k : Nat) : Prop :=
  (∀ u ∈ ids, c u < k) ∧ ∀ u ∈ ids, ∀ v ∈ ids, adj u v → c u ≠ c v
def Colorable (ids : List Int) (adj : Int → Int → Prop) (k : Nat) : Prop := ∃ c, Paints ids adj c k
def Chi (ids : List Int) (adj : Int → Int → Prop) (k : Nat) : Prop := Colorable ids adj k ∧ ∀ m, Colorable ids adj m → k ≤ m
theorem Colorable.of_map {ids ids' : List Int} {adj adj' : Int → Int → Prop} {k : Nat} (f : Int → Int) (hf : ∀ u ∈ ids, f u ∈ ids') (ha : ∀ u ∈ ids, ∀ v ∈ ids, adj u v → adj' (f u) (f v))
    (h : Colorable ids' adj' k) : Colorable ids adj k := by
  obtain ⟨c, h1, h2⟩ := h
  exact ⟨fun u => c (f u), fun u hu => h1 _ (hf u hu), fun u hu v hv huv => h2 _ (hf u hu) _ (hf v hv) (ha u hu v hv huv)⟩
theorem Colorable.mono {ids : List Int} {adj : Int → Int → Prop} {k m : Nat} (h : Colorable ids adj k) (hkm : k ≤ m) : Colorable ids adj m := by
  obtain ⟨c, h1, h2⟩ := h
  exact ⟨c, fun u hu => Nat.lt_of_lt_of_le (h1 u hu) hkm, h2⟩
theorem pigeon : ∀ (m k : Nat) (g : Nat → Nat), (∀ i, i < k → g i < m) → (∀ i j, i < k → j < k → g i = g j → i = j) → k ≤ m
  | 0, k, g, h, _ => by
    rcases Nat.eq_zero_or_pos k with h0 | h0
    · omega
    · exact absurd (h 0 h0) (Nat.not_lt_zero _)
  | m + 1, 0, g, _, _ => Nat.zero_le _
  | m + 1, k + 1, g, h, hi => by
    have := pigeon m k (fun i => if g i = m then g k else g i) (fun i hk => by
      have h1 := h i (by omega)
      have h2 := h k (by omega)
      show (if g i = m then g k else g i) < m
      split
      · rename_i e
        have : g k ≠ m := fun e' => by have := hi i k (by omega) (by omega) (e.trans e'.symm); omega
        omega
      · omega) (fun i j hik hjk he => by
      have he : (if g i = m then g k else g i) = (if g j = m then g k else g j) := he
      split at he <;> split at he
      · rename_i e1 e2; exact hi i j (by omega) (by omega) (e1.trans e2.symm)
      · have := hi k j (by omega) (by omega) he; omega
      · have := hi i k (by omega) (by omega) he; omega
      · exact hi i j (by omega) (by omega) he)
    omega
theorem idxOf_inj {l : List Int} {u v : Int} (hu : u ∈ l) (hv : v ∈ l) (h : l.idxOf u = l.idxOf v) : u = v := by
  have h1 : l[l.idxOf u]? = some u := by rw [List.getElem?_eq_getElem (List.idxOf_lt_length_iff.2 hu), List.getElem_idxOf]
  have h2 : l[l.idxOf v]? = some v := by rw [List.getElem?_eq_getElem (List.idxOf_lt_length_iff.2 hv), List.getElem_idxOf]
  rw [h, h2] at h1; exact (Option.some.inj h1).symm
/-! ### How a partial colouring goes on -/
def Ext (ids : List Int) (adj : Int → Int → Prop) (f : Int → Option Nat) (m : Nat) : Prop :=
  ∃ c, Paints ids adj c m ∧ ∀ u ∈ ids, ∀ v ∈ ids, ∀ x y, f u = some x → f v = some y → (x = y ↔ c u = c v)
structure Part (ids : List Int) (adj : Int → Int → Prop) (f : Int → Option Nat) (k : Nat) : Prop where
  dom : ∀ u x, f u = some x → u ∈ ids ∧ x < k
  all : ∀ x, x < k → ∃ u, f u = some x
  apart : ∀ u v x, f u = some x → f v = some x → ¬ adj u v
def upd (f : Int → Option Nat) (v : Int) (x : Nat) : Int → Option Nat := fun u => if u = v then some x else f u
theorem Ext.le {ids : List Int} {adj : Int → Int → Prop} {f : Int → Option Nat} {k m : Nat} (hp : Part ids adj f k) (h : Ext ids adj f m) : k ≤ m := by
  obtain ⟨c, h1, h2⟩ := h
  have hf : ∀ x, ∃ u, x < k → f u = some x := fun x => by
    by_cases h : x < k
    · obtain ⟨u, hu⟩ := hp.all x h; exact ⟨u, fun _ => hu⟩
    · exact ⟨0, fun h' => absurd h' h⟩
  obtain ⟨g, hg⟩ := Classical.axiomOfChoice hf
  refine pigeon m k (fun x => c (g x)) (fun x hx => h1.1 _ (hp.dom _ _ (hg x hx)).1) (fun x y hx hy he => ?_)
  exact (h2 _ (hp.dom _ _ (hg x hx)).1 _ (hp.dom _ _ (hg y hy)).1 x y (hg x hx) (hg y hy)).2 he
theorem Part.step_old {ids : List Int} {adj : Int → Int → Prop} {f : Int → Option Nat} {k x : Nat} {v : Int} (hirr : ∀ u, ¬ adj u u) (hsym : ∀ u v, adj u v → adj v u) (hp : Part ids adj f k) (hv : v ∈ ids) (hfv : f v = none) (hx : x < k) (hfree : ∀ u, f u = some x → ¬ adj v u) :
    Part ids adj (upd f v x) k := by
  refine ⟨fun u y h => ?_, fun y hy => ?_, fun u u' y h h' hadj => ?_⟩
  · unfold upd at h
    split at h
    · rename_i e; cases h; rw [e]; exact ⟨hv, hx⟩
    · exact hp.dom u y h
  · obtain ⟨u, hu⟩ := hp.all y hy
    refine ⟨u, ?_⟩
    unfold upd; rw [if_neg (fun e => by rw [e, hfv] at hu; cases hu)]; exact hu
  · unfold upd at h h'
    split at h <;> split at h'
    · rename_i e1 e2; rw [e1, e2] at hadj; exact hirr _ hadj
    · rename_i e1 _; cases h; rw [e1] at hadj; exact hfree u' h' hadj
    · rename_i _ e2; cases h'; rw [e2] at hadj; exact hfree u h (hsym _ _ hadj)
    · exact hp.apart u u' y h h' hadj
theorem Part.step_new {ids : List Int} {adj : Int → Int → Prop} {f : Int → Option Nat} {k : Nat} {v : Int} (hirr : ∀ u, ¬ adj u u) (hp : Part ids adj f k) (hv : v ∈ ids) (hfv : f v = none) :
    Part ids adj (upd f v k) (k + 1) := by
  refine ⟨fun u y h => ?_, fun y hy => ?_, fun u u' y h h' hadj => ?_⟩
  · unfold upd at h
    split at h
    · rename_i e; cases h; rw [e]; exact ⟨hv, Nat.lt_succ_self _⟩
    · have := hp.dom u y h; exact ⟨this.1, by omega⟩
  · by_cases hyk : y = k
    · exact ⟨v, by unfold upd; rw [if_pos rfl, hyk]⟩
    · obtain ⟨u, hu⟩ := hp.all y (by omega)
      refine ⟨u, ?_⟩
      unfold upd; rw [if_neg (fun e => by rw [e, hfv] at hu; cases hu)]; exact hu
  · unfold upd at h h'
    split at h <;> split at h'
    · rename_i e1 e2; rw [e1, e2] at hadj; exact hirr _ hadj
    · cases h; have := (hp.dom _ _ h').2; omega
    · cases h'; have := (hp.dom _ _ h).2; omega
    · exact hp.apart u u' y h h' hadj
theorem Ext.step {ids : List Int} {adj : Int → Int → Prop} {f : Int → Option Nat} {k m : Nat} {v : Int} (hp : Part ids adj f k) (hv : v ∈ ids) (hfv : f v = none) (h : Ext ids adj f m) :
    (∃ x, x < k ∧ (∀ u, f u = some x → ¬ adj v u) ∧ Ext ids adj (upd f v x) m) ∨ Ext ids adj (upd f v k) m := by
  obtain ⟨c, h1, h2⟩ := h
  by_cases hx : ∃ u x, f u = some x ∧ c u = c v
  · obtain ⟨u, x, hu, hc⟩ := hx
    have hux := hp.dom u x hu
    refine .inl ⟨x, hux.2, fun u' hu' hadj => ?_, c, h1, fun a ha b hb y z hy hz => ?_⟩
    · have hu'x := hp.dom u' x hu'
      have := (h2 u hux.1 u' hu'x.1 x x hu hu').1 rfl
      exact h1.2 v hv u' hu'x.1 hadj (by rw [← hc, this])
    · unfold upd at hy hz
      split at hy <;> split at hz
      · rename_i e1 e2; cases hy; cases hz; rw [e1, e2]; simp
      · rename_i e1 _; cases hy; rw [e1, ← hc]; exact h2 u hux.1 b hb x z hu hz
      · rename_i _ e2; cases hz; rw [e2, ← hc]; exact h2 a ha u hux.1 y x hy hu
      · exact h2 a ha b hb y z hy hz
  · refine .inr ⟨c, h1, fun a ha b hb y z hy hz => ?_⟩
    unfold upd at hy hz
    split at hy <;> split at hz
    · rename_i e1 e2; cases hy; cases hz; rw [e1, e2]; simp
    · rename_i e1 _; cases hy
      refine ⟨fun e => ?_, fun e => ?_⟩
      · have := (hp.dom _ _ hz).2; omega
      · exact absurd ⟨b, z, hz, by rw [← e, e1]⟩ hx
    · rename_i _ e2; cases hz
      refine ⟨fun e => ?_, fun e => ?_⟩
      · have := (hp.dom _ _ hy).2; omega
      · exact absurd ⟨a, y, hy, by rw [e, e2]⟩ hx
    · exact h2 a ha b hb y z hy hz
theorem Part.full {ids : List Int} {adj : Int → Int → Prop} {f : Int → Option Nat} {k : Nat} (hp : Part ids adj f k) (hfull : ∀ u ∈ ids, ∃ x, f u = some x) : Colorable ids adj k := by
  refine ⟨fun u => (f u).getD 0, fun u hu => ?_, fun u hu v hv hadj he => ?_⟩
  · obtain ⟨x, hx⟩ := hfull u hu
    show (f u).getD 0 < k
    rw [hx]; exact (hp.dom u x hx).2
  · obtain ⟨x, hx⟩ := hfull u hu
    obtain ⟨y, hy⟩ := hfull v hv
    have he : (f u).getD 0 = (f v).getD 0 := he
    rw [hx, hy] at he
    have he : x = y := he
    rw [← he] at hy
    exact hp.apart u v x hx hy hadj
theorem Ext.of_clique {ids : List Int} {adj : Int → Int → Prop} {f : Int → Option Nat} {m : Nat} (hinj : ∀ u v x, f u = some x → f v = some x → u = v)
    (hcl : ∀ u v x y, f u = some x → f v = some y → u ≠ v → adj u v) (h : Colorable ids adj m) : Ext ids adj f m := by
  obtain ⟨c, h1, h2⟩ := h
  refine ⟨c, ⟨h1, h2⟩, fun u hu v hv x y hx hy => ⟨fun e => ?_, fun e => ?_⟩⟩
  · rw [hinj u v x hx (e ▸ hy)]
  · by_cases huv : u = v
    · rw [huv, hy] at hx; cases hx; rfl
    · exact absurd e (h2 u hu v hv (hcl u v x y hx hy huv))
theorem Colorable.clique {ids : List Int} {adj : Int → Int → Prop} {m : Nat} (h : Colorable ids adj m) (l : List Int) (hn : l.Nodup) (hl : ∀ u ∈ l, u ∈ ids) (hc : ∀ u ∈ l, ∀ v ∈ l, u ≠ v → adj u v) : l.length ≤ m := by
  obtain ⟨c, h1, h2⟩ := h
  refine pigeon m l.length (fun i => c (l.getD i 0)) (fun i hi => ?_) (fun i j hi hj he => ?_)
  · have : l.getD i 0 = l[i] := by rw [List.getD_eq_getElem?_getD, List.getElem?_eq_getElem hi]; rfl
    show c (l.getD i 0) < m
    rw [this]; exact h1 _ (hl _ (List.getElem_mem hi))
  · have e1 : l.getD i 0 = l[i] := by rw [List.getD_eq_getElem?_getD, List.getElem?_eq_getElem hi]; rfl
    have e2 : l.getD j 0 = l[j] := by rw [List.getD_eq_getElem?_getD, List.getElem?_eq_getElem hj]; rfl
    have he : c (l.getD i 0) = c (l.getD j 0) := he
    rw [e1, e2] at he
    by_cases hij : l[i] = l[j]
    · exact (List.getElem_inj hn).1 hij
    · exact absurd he (h2 _ (hl _ (List.getElem_mem hi)) _ (hl _ (List.getElem_mem hj)) (hc _ (List.getElem_mem hi) _ (List.getElem_mem hj) hij))
/-! ### Colourings that lie in a map -/
abbrev PC := List (Int × Nat)
def ckv (C : PC) : KV := C.map fun p => (p.1, .int .i64 (p.2 : Int))
def cget (C : PC) (u : Int) : Option Nat := (C.find? (fun p => p.1 == u)).map (·.2)
def cput (C : PC) (k : Int) (v : Nat) : PC := if C.any (fun p => p.1 == k) then C.map (fun p => if p.1 == k then (k, v) else p) else C ++ [(k, v)]
def cdel (C : PC) (k : Int) : PC := C.filter (fun p => !(p.1 == k))
theorem kget_ckv (C : PC) (k : Int) : kget (ckv C) k = (cget C k).map fun c => Value.int .i64 (c : Int) := by
  unfold kget cget ckv
  induction C with
  | nil => rfl
  | cons p C ih =>
    rw [List.map_cons, List.find?_cons, List.find?_cons]
    by_cases h : p.1 = k
    · simp [h]
    · have h1 : (p.1 == k) = false := by simpa using h
      simp only [h1]
      exact ih
theorem kput_ckv (C : PC) (k : Int) (v : Nat) : kput (ckv C) k (.int .i64 (v : Int)) = ckv (cput C k v) := by
  unfold kput cput ckv
  rw [List.any_map]
  show (if C.any (fun p => p.1 == k) = true then _ else _) = _
  split
  · rw [List.map_map, List.map_map]
    apply List.map_congr_left
    intro p _
    show (if p.1 == k then (k, Value.int .i64 (v : Int)) else (p.1, Value.int .i64 (p.2 : Int))) = ((if p.1 == k then (k, v) else p).1, Value.int .i64 (((if p.1 == k then (k, v) else p).2 : Nat) : Int))
    split <;> rfl
  · rw [List.map_append]; rfl
theorem kdel_ckv (C : PC) (k : Int) : kdel (ckv C) k = ckv (cdel C k) := by
  unfold kdel cdel ckv
  rw [List.filter_map]; rfl
theorem cget_cput (C : PC) (k : Int) (v : Nat) (u : Int) : cget (cput C k v) u = if u = k then some v else cget C u := by
  unfold cput cget
  by_cases ha : C.any (fun p => p.1 == k) = true
  · rw [if_pos ha]
    induction C with
    | nil => simp at ha
    | cons p C ih =>
      rw [List.map_cons, List.find?_cons, List.find?_cons]
      by_cases hp : p.1 = k
      · have hp' : (p.1 == k) = true := by simpa using hp
        simp only [hp', if_true]
        by_cases hu : u = k
        · simp [hu]
        · have h1 : (k == u) = false := by simpa using fun e => hu e.symm
          have h2 : (p.1 == u) = false := by rw [hp]; exact h1
          simp only [h1, h2, if_neg hu]
          by_cases ha' : C.any (fun p => p.1 == k) = true
          · rw [ih ha', if_neg hu]
          · have : C.map (fun p => if (p.1 == k) = true then (k, v) else p) = C := by
              conv => rhs; rw [← List.map_id C]
              apply List.map_congr_left
              intro q hq
              rw [if_neg (fun e => ha' (List.any_eq_true.2 ⟨q, hq, e⟩))]; rfl
            rw [this]
      · have hp' : (p.1 == k) = false := by simpa using hp
        simp only [hp', Bool.false_eq_true, if_false]
        simp only [List.any_cons, hp', Bool.false_or] at ha
        by_cases hpu : p.1 = u
        · have h1 : (p.1 == u) = true := by simpa using hpu
          simp only [h1]
          rw [if_neg (fun e => hp (hpu.trans e))]
        · have h1 : (p.1 == u) = false := by simpa using hpu
          simp only [h1]
          exact ih ha
  · rw [if_neg ha, List.find?_append]
    by_cases hu : u = k
    · subst hu
      have : C.find? (fun p => p.1 == u) = none := by
        rw [List.find?_eq_none]; intro p hp e; exact ha (List.any_eq_true.2 ⟨p, hp, e⟩)
      rw [this]; simp
    · have h1 : (k == u) = false := by simpa using fun e => hu e.symm
      simp [List.find?_cons, h1, hu]
theorem cget_cdel (C : PC) (k u : Int) : cget (cdel C k) u = if u = k then none else cget C u := by
  unfold cdel cget
  induction C with
  | nil => simp
  | cons p C ih =>
    by_cases hp : p.1 = k
    · have hp' : (p.1 == k) = true := by simpa using hp
      simp only [List.filter_cons, hp', Bool.not_true, Bool.false_eq_true, if_false, ih, List.find?_cons]
      by_cases hu : u = k
      · simp [hu]
      · have : (p.1 == u) = false := by rw [hp]; simpa using fun e => hu e.symm
        simp [this, hu]
    · have hp' : (p.1 == k) = false := by simpa using hp
      simp only [List.filter_cons, hp', Bool.not_false, if_true, List.find?_cons]
      by_cases hpu : p.1 = u
      · have h1 : (p.1 == u) = true := by simpa using hpu
        simp only [h1]
        rw [if_neg (fun e => hp (hpu.trans e))]
      · have h1 : (p.1 == u) = false := by simpa using hpu
        simp only [h1]; exact ih
theorem cget_mem {C : PC} (hn : (C.map (·.1)).Nodup) {u : Int} {x : Nat} : cget C u = some x ↔ (u, x) ∈ C := by
  unfold cget
  induction C with
  | nil => simp
  | cons p C ih =>
    simp only [List.map_cons, List.nodup_cons] at hn
    rw [List.find?_cons]
    by_cases hp : p.1 = u
    · have h1 : (p.1 == u) = true := by simpa using hp
      simp only [h1, Option.map_some, Option.some.injEq, List.mem_cons]
      constructor
      · intro e; left; rw [← hp, ← e]
      · rintro (e | e)
        · rw [← e]
        · exact absurd (List.mem_map.2 ⟨_, e, hp.symm⟩) hn.1
    · have h1 : (p.1 == u) = false := by simpa using hp
      simp only [h1, List.mem_cons]
      rw [ih hn.2]
      constructor
      · exact .inr
      · rintro (e | e)
        · exact absurd (by rw [← e]) hp
        · exact e
theorem cget_none {C : PC} {u : Int} : cget C u = none ↔ u ∉ C.map (·.1) := by
  unfold cget
  rw [Option.map_eq_none_iff, List.find?_eq_none]
  constructor
  · intro h hu
    obtain ⟨p, hp, e⟩ := List.mem_map.1 hu
    exact h p hp (by simp [e])
  · intro h p hp e
    exact h (List.mem_map.2 ⟨p, hp, by simpa using e⟩)
end Go.V
end
/- A colouring that lies in a map, one node more at a time (plain laws). -/
section
namespace Go.V
def Proper (adj : Int → Int → Prop) (C : PC) : Prop := ∀ u v x, cget C u = some x → cget C v = some x → ¬ adj u v
theorem Proper.nil (adj : Int → Int → Prop) : Proper adj [] := fun u v x h _ => by simp [cget] at h
theorem Proper.put {adj : Int → Int → Prop} {C : PC} {u : Int} {c : Nat} (h : Proper adj C) (hsym : ∀ a b, adj a b → adj b a) (hirr : ∀ a, ¬ adj a a) (hc : ∀ v, adj u v → cget C v ≠ some c) : Proper adj (cput C u c) := by
  intro a b x ha hb hadj
  rw [cget_cput] at ha hb
  split at ha <;> split at hb
  · rename_i e1 e2; rw [e1, e2] at hadj; exact hirr _ hadj
  · rename_i e1 _; cases ha; rw [e1] at hadj; exact hc b hadj hb
  · rename_i _ e2; cases hb; rw [e2] at hadj; exact hc a (hsym _ _ hadj) ha
  · exact h a b x ha hb hadj
theorem Proper.colorable {ids : List Int} {adj : Int → Int → Prop} {C : PC} {k : Nat} (h : Proper adj C) (hk : ∀ u ∈ ids, ∃ x, cget C u = some x ∧ x < k) : Colorable ids adj k := by
  refine ⟨fun u => (cget C u).getD 0, fun u hu => ?_, fun u hu v hv hadj he => ?_⟩
  · obtain ⟨x, hx, hlt⟩ := hk u hu
    show (cget C u).getD 0 < k
    rw [hx]; exact hlt
  · obtain ⟨x, hx, _⟩ := hk u hu
    obtain ⟨y, hy, _⟩ := hk v hv
    have he : (cget C u).getD 0 = (cget C v).getD 0 := he
    rw [hx, hy] at he
    have he : x = y := he
    exact h u v x hx (he ▸ hy) hadj
theorem cput_length {C : PC} {u : Int} {c : Nat} (h : cget C u = none) : (cput C u c).length = C.length + 1 := by
  have hn := cget_none.1 h
  unfold cput
  rw [if_neg (fun ha => by
    obtain ⟨p, hp, e⟩ := List.any_eq_true.1 ha
    exact hn (List.mem_map.2 ⟨p, hp, by simpa using e⟩))]
  simp
theorem keys_cput {C : PC} {u : Int} {c : Nat} (h : cget C u = none) : (cput C u c).map (·.1) = C.map (·.1) ++ [u] := by
  have hn := cget_none.1 h
  unfold cput
  rw [if_neg (fun ha => by
    obtain ⟨p, hp, e⟩ := List.any_eq_true.1 ha
    exact hn (List.mem_map.2 ⟨p, hp, by simpa using e⟩))]
  simp
theorem all_coloured {ids : List Int} {C : PC} (hn : ids.Nodup) (hC : (C.map (·.1)).Nodup) (hsub : ∀ u ∈ C.map (·.1), u ∈ ids) (hl : ids.length ≤ C.length) : ∀ u ∈ ids, ∃ x, cget C u = some x := by
  intro u hu
  cases h : cget C u with
  | some x => exact ⟨x, rfl⟩
  | none =>
    exfalso
    have h1 := cget_none.1 h
    -- the coloured nodes and u: one more than there are
    have hlen : (C.map (·.1) ++ [u]).length ≤ ids.length := by
      have hnd : (C.map (·.1) ++ [u]).Nodup := by
        rw [List.nodup_append]; exact ⟨hC, by simp, fun a ha b hb => by simp at hb; rintro rfl; exact h1 (hb ▸ ha)⟩
      refine pigeon ids.length _ (fun i => ids.idxOf ((C.map (·.1) ++ [u]).getD i 0)) (fun i hi => ?_) (fun i j hi hj he => ?_)
      · refine List.idxOf_lt_length_iff.2 ?_
        rw [List.getD_eq_getElem?_getD, List.getElem?_eq_getElem hi]
        rcases List.mem_append.1 (List.getElem_mem hi) with h2 | h2
        · exact hsub _ h2
        · simp at h2; show (C.map (·.1) ++ [u])[i] ∈ ids; rw [h2]; exact hu
      · have e : ∀ i (hi : i < (C.map (·.1) ++ [u]).length), (C.map (·.1) ++ [u]).getD i 0 = (C.map (·.1) ++ [u])[i] := fun i hi => by
          rw [List.getD_eq_getElem?_getD, List.getElem?_eq_getElem hi]; rfl
        have he : ids.idxOf ((C.map (·.1) ++ [u]).getD i 0) = ids.idxOf ((C.map (·.1) ++ [u]).getD j 0) := he
        rw [e i hi, e j hj] at he
        have hin : ∀ x ∈ C.map (·.1) ++ [u], x ∈ ids := fun x hx => by
          rcases List.mem_append.1 hx with h2 | h2
          · exact hsub _ h2
          · simp at h2; rw [h2]; exact hu
        exact (List.getElem_inj (h₀ := hi) (h₁ := hj) hnd).1 (idxOf_inj (hin _ (List.getElem_mem hi)) (hin _ (List.getElem_mem hj)) he)
    simp at hlen
    omega
end Go.V
end
/- The order by degeneracy: plain laws on the lists by degree. -/
section
namespace Go.V
def live (C : PC) (x : Int) : Bool := (cget C x).isSome
structure DInv (ids : List Int) (N : Int → List Int) (C : PC) (D : List (List Int)) (p : List Int) : Prop where
  sub : ∀ u, (cget C u).isSome → u ∈ ids
  at' : ∀ u j, cget C u = some j ↔ ∃ l, D[j]? = some l ∧ u ∈ l
  nd : ∀ (j : Nat) l, D[j]? = some l → l.Nodup
  le : ∀ u c, cget C u = some c → (N u).countP (live C) + (if u ∈ p then 1 else 0) ≤ c
def strike (l : List Int) (i : Nat) : List Int := (l.set i (l.getLastD 0)).dropLast
theorem strike_length {l : List Int} {i : Nat} : (strike l i).length = l.length - 1 := by unfold strike; simp
theorem strike_snoc (A : List Int) (x : Int) (i : Nat) : strike (A ++ [x]) i = if i < A.length then A.set i x else A := by
  unfold strike
  rw [List.getLastD_concat]
  split
  · rename_i h; rw [List.set_append_left _ _ h]; simp
  · rename_i h; rw [List.set_append_right _ _ (by omega)]
    have : ∀ k, ([x] : List Int).set k x = [x] := fun k => by cases k <;> simp
    rw [this]; simp
theorem strike_mem {l : List Int} {i : Nat} {w : Int} (hn : l.Nodup) (hi : l[i]? = some w) : (∀ x, x ∈ strike l i ↔ x ∈ l ∧ x ≠ w) ∧ (strike l i).Nodup := by
  rcases List.eq_nil_or_concat l with rfl | ⟨A, x, rfl⟩
  · simp at hi
  · rw [List.concat_eq_append] at hn hi ⊢
    have hA := (List.nodup_append.1 hn)
    rw [strike_snoc]
    split
    · rename_i h
      rw [List.getElem?_append_left h] at hi
      obtain ⟨_, hi'⟩ := List.getElem?_eq_some_iff.1 hi
      have hxA : x ∉ A := fun hx => hA.2.2 x hx x (by simp) rfl
      have key : ∀ (A : List Int) (i : Nat), A[i]? = some w → A.Nodup → x ∉ A → (∀ y, y ∈ A.set i x ↔ (y ∈ A ∧ y ≠ w) ∨ y = x) ∧ (A.set i x).Nodup := by
        intro A
        induction A with
        | nil => intro i h; simp at h
        | cons a A ih =>
          intro i h hn hx
          rw [List.nodup_cons] at hn
          simp only [List.mem_cons, not_or] at hx
          cases i with
          | zero =>
            simp at h; subst h
            simp only [List.set_cons_zero, List.mem_cons, List.nodup_cons]
            refine ⟨fun y => ?_, hx.2, hn.2⟩
            constructor
            · rintro (rfl | h)
              · exact .inr rfl
              · exact .inl ⟨.inr h, fun e => hn.1 (e ▸ h)⟩
            · rintro (⟨h | h, h2⟩ | rfl)
              · exact absurd h h2
              · exact .inr h
              · exact .inl rfl
          | succ i =>
            rw [List.getElem?_cons_succ] at h
            obtain ⟨h1, h2⟩ := ih i h hn.2 hx.2
            simp only [List.set_cons_succ, List.mem_cons, List.nodup_cons]
            refine ⟨fun y => ?_, ?_, h2⟩
            · rw [h1]
              constructor
              · rintro (rfl | (⟨h3, h4⟩ | rfl))
                · exact .inl ⟨.inl rfl, fun e => hn.1 (e ▸ List.mem_of_getElem? h)⟩
                · exact .inl ⟨.inr h3, h4⟩
                · exact .inr rfl
              · rintro (⟨rfl | h3, h4⟩ | rfl)
                · exact .inl rfl
                · exact .inr (.inl ⟨h3, h4⟩)
                · exact .inr (.inr rfl)
            · rw [h1]
              rintro (⟨h3, _⟩ | h3)
              · exact hn.1 h3
              · exact hx.1 h3.symm
      obtain ⟨k1, k2⟩ := key A i hi hA.1 hxA
      refine ⟨fun y => ?_, k2⟩
      rw [k1, List.mem_append, List.mem_singleton]
      have hw : x ≠ w := fun e => hxA (e ▸ List.mem_of_getElem? hi)
      constructor
      · rintro (⟨h3, h4⟩ | rfl)
        · exact ⟨.inl h3, h4⟩
        · exact ⟨.inr rfl, hw⟩
      · rintro ⟨h3 | h3, h4⟩
        · exact .inl ⟨h3, h4⟩
        · exact .inr h3
    · rename_i h
      rw [List.getElem?_append_right (by omega)] at hi
      have hxw : x = w := by
        have := List.mem_of_getElem? hi
        exact (List.mem_singleton.1 this).symm
      subst hxw
      refine ⟨fun y => ?_, hA.1⟩
      rw [List.mem_append, List.mem_singleton]
      constructor
      · intro h3; exact ⟨.inl h3, fun e => hA.2.2 y h3 x (by simp) e⟩
      · rintro ⟨h3 | h3, h4⟩
        · exact h3
        · exact absurd h3 h4
theorem countP_le {l : List Int} {p q : Int → Bool} (h : ∀ x, p x = true → q x = true) : l.countP p ≤ l.countP q := List.countP_mono_left fun x _ hx => h x hx
theorem countP_lt {l : List Int} {p q : Int → Bool} {v : Int} (h : ∀ x, p x = true → q x = true) (hv : v ∈ l) (h1 : q v = true) (h2 : p v = false) : l.countP p + 1 ≤ l.countP q := by
  induction l with
  | nil => cases hv
  | cons a l ih =>
    rw [List.countP_cons, List.countP_cons]
    rcases List.mem_cons.1 hv with rfl | hv
    · rw [h1, h2]; have := countP_le (l := l) h; simp; omega
    · have := ih hv
      have : (if p a = true then 1 else 0) ≤ (if q a = true then 1 else 0) := by
        split
        · rename_i hp; rw [if_pos (h a hp)]; exact Nat.le_refl _
        · exact Nat.zero_le _
      omega
section
variable {ids : List Int} {N : Int → List Int} {C : PC} {D : List (List Int)} {p : List Int}
theorem DInv.some' (h : DInv ids N C D p) (hC : C ≠ []) (hn : (C.map (·.1)).Nodup) : ∃ (j : Nat) (l : List Int), D[j]? = some l ∧ l ≠ [] := by
  rcases C with _ | ⟨⟨u, c⟩, C⟩
  · exact absurd rfl hC
  · obtain ⟨l, h1, h2⟩ := (h.at' u c).1 ((cget_mem hn).2 (List.mem_cons_self ..))
    exact ⟨c, l, h1, fun e => by rw [e] at h2; cases h2⟩
theorem live_cdel {C : PC} {v x : Int} : live (cdel C v) x = true → live C x = true := by
  unfold live
  rw [cget_cdel]
  split
  · intro h; cases h
  · exact id
theorem DInv.pop (h : DInv ids N C D []) {i : Nat} {l : List Int} {v : Int} (hi : D[i]? = some (l ++ [v])) (hs : ∀ a ∈ ids, ∀ b ∈ ids, a ∈ N b → b ∈ N a) : DInv ids N (cdel C v) (D.set i l) (N v) := by
  have hv : cget C v = some i := (h.at' v i).2 ⟨_, hi, by simp⟩
  have hil : i < D.length := (List.getElem?_eq_some_iff.1 hi).1
  have hnd := h.nd i _ hi
  have hvl : v ∉ l := fun hm => (List.nodup_append.1 hnd).2.2 v hm v (by simp) rfl
  refine ⟨fun u hu => ?_, fun u j => ?_, fun j m hm => ?_, fun u c hu => ?_⟩
  · rw [cget_cdel] at hu
    split at hu
    · cases hu
    · exact h.sub u hu
  · rw [cget_cdel, List.getElem?_set]
    by_cases e : u = v
    · subst e
      rw [if_pos rfl]
      constructor
      · intro h; cases h
      · rintro ⟨m, h1, h2⟩
        split at h1
        · cases h1; exact absurd h2 hvl
        · rename_i hne
          have := (h.at' u j).2 ⟨m, h1, h2⟩
          rw [hv] at this; cases this; exact absurd rfl hne
    · rw [if_neg e, h.at']
      by_cases hj : i = j
      · subst hj
        rw [if_pos rfl, if_pos hil, hi]
        constructor
        · rintro ⟨m, h1, h2⟩
          cases h1
          refine ⟨l, rfl, ?_⟩
          rcases List.mem_append.1 h2 with h2 | h2
          · exact h2
          · exact absurd (by simpa using h2) e
        · rintro ⟨m, h1, h2⟩
          cases h1
          exact ⟨_, rfl, List.mem_append_left _ h2⟩
      · rw [if_neg hj]
  · rw [List.getElem?_set] at hm
    split at hm
    · cases hm; exact (List.nodup_append.1 hnd).1
    · exact h.nd j m hm
  · have hu' : cget C u = some c ∧ u ≠ v := by
      rw [cget_cdel] at hu
      split at hu
      · cases hu
      · rename_i e; exact ⟨hu, e⟩
    have h1 := h.le u c hu'.1
    simp only [List.not_mem_nil, if_false, Nat.add_zero] at h1
    have hvi : v ∈ ids := h.sub v (by rw [hv]; rfl)
    have hui : u ∈ ids := h.sub u (by rw [hu'.1]; rfl)
    split
    · rename_i hm
      have := countP_lt (l := N u) (p := live (cdel C v)) (q := live C) (v := v) (fun x => live_cdel) (hs u hui v hvi hm) (by unfold live; rw [hv]; rfl) (by unfold live; rw [cget_cdel, if_pos rfl]; rfl)
      omega
    · have := countP_le (l := N u) (p := live (cdel C v)) (q := live C) (fun x => live_cdel)
      omega
theorem DInv.skip {w : Int} (h : DInv ids N C D (w :: p)) (hw : cget C w = none) : DInv ids N C D p :=
  ⟨h.sub, h.at', h.nd, fun u c hu => by
    have h1 := h.le u c hu
    have hne : u ≠ w := fun e => by rw [e, hw] at hu; cases hu
    simp only [List.mem_cons, hne, false_or] at h1
    exact h1⟩
theorem DInv.move {w : Int} {dw : Nat} {l : List Int} {i : Nat} (h : DInv ids N C D (w :: p)) (hp : w ∉ p) (hw : cget C w = some dw) (hl : D[dw]? = some l) (hi : l[i]? = some w) :
    ∃ (k : Nat) (m : List Int), dw = k + 1 ∧ D[k]? = some m ∧ DInv ids N (cput C w k) ((D.set dw (strike l i)).set k (m ++ [w])) p := by
  have h1 := h.le w dw hw
  simp only [List.mem_cons_self, if_true] at h1
  obtain ⟨k, rfl⟩ : ∃ k, dw = k + 1 := ⟨dw - 1, by omega⟩
  have hdl : k + 1 < D.length := (List.getElem?_eq_some_iff.1 hl).1
  obtain ⟨m, hm⟩ : ∃ m, D[k]? = some m := ⟨_, List.getElem?_eq_getElem (by omega)⟩
  obtain ⟨s1, s2⟩ := strike_mem (h.nd _ _ hl) hi
  have hwm : w ∉ m := fun hx => by have := (h.at' w k).2 ⟨m, hm, hx⟩; rw [hw] at this; simp at this
  have hat : ∀ j, ((D.set (k + 1) (strike l i)).set k (m ++ [w]))[j]? = if k = j then some (m ++ [w]) else if k + 1 = j then some (strike l i) else D[j]? := fun j => by
    rw [List.getElem?_set, List.getElem?_set]
    by_cases e : k = j
    · rw [if_pos e, if_pos e, if_pos (by simp; omega)]
    · rw [if_neg e, if_neg e]
      by_cases e2 : k + 1 = j
      · rw [if_pos e2, if_pos e2, if_pos hdl]
      · rw [if_neg e2, if_neg e2]
  refine ⟨k, m, rfl, hm, fun u hu => ?_, fun u j => ?_, fun j q hq => ?_, fun u c hu => ?_⟩
  · rw [cget_cput] at hu
    split at hu
    · rename_i e; rw [e]; exact h.sub w (by rw [hw]; rfl)
    · exact h.sub u hu
  · rw [cget_cput, hat]
    by_cases e : u = w
    · subst e
      rw [if_pos rfl]
      constructor
      · intro he; cases he
        exact ⟨_, if_pos rfl, by simp⟩
      · rintro ⟨q, h2, h3⟩
        split at h2
        · rename_i e; rw [e]
        · split at h2
          · cases h2; exact absurd rfl ((s1 u).1 h3).2
          · rename_i e1 e2
            have := (h.at' u j).2 ⟨q, h2, h3⟩
            rw [hw] at this; cases this; exact absurd rfl e2
    · rw [if_neg e, h.at']
      by_cases e1 : k = j
      · subst e1
        rw [if_pos rfl, hm]
        constructor
        · rintro ⟨q, h2, h3⟩; cases h2; exact ⟨_, rfl, List.mem_append_left _ h3⟩
        · rintro ⟨q, h2, h3⟩; cases h2
          rcases List.mem_append.1 h3 with h3 | h3
          · exact ⟨_, rfl, h3⟩
          · exact absurd (by simpa using h3) e
      · rw [if_neg e1]
        by_cases e2 : k + 1 = j
        · subst e2
          rw [if_pos rfl, hl]
          constructor
          · rintro ⟨q, h2, h3⟩; cases h2; exact ⟨_, rfl, (s1 u).2 ⟨h3, e⟩⟩
          · rintro ⟨q, h2, h3⟩; cases h2; exact ⟨_, rfl, ((s1 u).1 h3).1⟩
        · rw [if_neg e2]
  · rw [hat] at hq
    split at hq
    · cases hq
      exact List.nodup_append.2 ⟨h.nd _ _ hm, by simp, fun a ha b hb e => hwm (by simp at hb; rw [← hb, ← e]; exact ha)⟩
    · split at hq
      · cases hq; exact s2
      · exact h.nd j q hq
  · have hlive : (N u).countP (live (cput C w k)) = (N u).countP (live C) := by
      congr 1
      funext x
      unfold live
      rw [cget_cput]
      split
      · rename_i e; rw [e, hw]; rfl
      · rfl
    rw [hlive]
    rw [cget_cput] at hu
    split at hu
    · rename_i e
      cases hu
      rw [e, if_neg hp]
      omega
    · rename_i e
      have h2 := h.le u c hu
      simp only [List.mem_cons, e, false_or] at h2
      exact h2
end
def byDeg (ids : List Int) (N : Int → List Int) (m k : Nat) : List (List Int) := (List.range m).map fun j => (ids.take k).filter fun u => (N u).length == j
theorem byDeg_zero (ids : List Int) (N : Int → List Int) (m : Nat) : byDeg ids N m 0 = List.replicate m [] := by
  unfold byDeg
  apply List.ext_getElem <;> simp
theorem byDeg_get {ids : List Int} {N : Int → List Int} {m k j : Nat} (hj : j < m) : (byDeg ids N m k)[j]? = some ((ids.take k).filter fun u => (N u).length == j) := by
  unfold byDeg
  rw [List.getElem?_map, List.getElem?_range hj]; rfl
theorem byDeg_length (ids : List Int) (N : Int → List Int) (m k : Nat) : (byDeg ids N m k).length = m := by unfold byDeg; simp
theorem byDeg_step {ids : List Int} {N : Int → List Int} {m k : Nat} {u : Int} (hu : ids[k]? = some u) (hm : (N u).length < m) :
    ∃ l, (byDeg ids N m k)[(N u).length]? = some l ∧ (byDeg ids N m k).set (N u).length (l ++ [u]) = byDeg ids N m (k + 1) := by
  refine ⟨_, byDeg_get hm, ?_⟩
  have ht : ids.take (k + 1) = ids.take k ++ [u] := by rw [List.take_add_one, hu]; rfl
  apply List.ext_getElem?
  intro j
  rw [List.getElem?_set, byDeg_length]
  by_cases hj : j < m
  · by_cases e : (N u).length = j
    · subst e
      rw [if_pos rfl, if_pos hm, byDeg_get hm, ht, List.filter_append]
      simp
    · rw [if_neg e, byDeg_get hj, byDeg_get hj, ht, List.filter_append]
      simp [e]
  · rw [if_neg (by omega), List.getElem?_eq_none (by rw [byDeg_length]; omega), List.getElem?_eq_none (by rw [byDeg_length]; omega)]
theorem DInv.start {ids : List Int} {N : Int → List Int} {C : PC} {m : Nat} (hn : ids.Nodup) (hC : ∀ u, cget C u = if u ∈ ids then some (N u).length else none) (hm : ∀ u ∈ ids, (N u).length < m) : DInv ids N C (byDeg ids N m ids.length) [] := by
  refine ⟨fun u hu => ?_, fun u j => ?_, fun j l hl => ?_, fun u c hu => ?_⟩
  · rw [hC] at hu
    split at hu
    · assumption
    · cases hu
  · rw [hC]
    constructor
    · intro h
      split at h
      · rename_i hu
        cases h
        exact ⟨_, byDeg_get (hm u hu), by rw [List.take_length]; exact List.mem_filter.2 ⟨hu, by simp⟩⟩
      · cases h
    · rintro ⟨l, h1, h2⟩
      have hj : j < m := by have := (List.getElem?_eq_some_iff.1 h1).1; rwa [byDeg_length] at this
      rw [byDeg_get hj, List.take_length] at h1
      cases h1
      obtain ⟨h3, h4⟩ := List.mem_filter.1 h2
      rw [if_pos h3]
      congr 1
      simpa using h4
  · have hj : j < m := by have := (List.getElem?_eq_some_iff.1 hl).1; rwa [byDeg_length] at this
    rw [byDeg_get hj, List.take_length] at hl
    cases hl
    exact hn.filter _
  · rw [hC] at hu
    split at hu
    · cases hu
      simp only [List.not_mem_nil, if_false, Nat.add_zero]
      exact List.countP_le_length
    · cases hu
end Go.V
end
/- Seven cells are stored. -/
section
namespace Go.V
open Go.RowKit
def chain7 (W : World) (b : Nat) (a0 a1 a2 a3 a4 a5 a6 : Value) : World :=
  ((((((W.setCell ⟨b, 0, none⟩ a0).setCell ⟨b, 1, none⟩ a1).setCell ⟨b, 2, none⟩ a2).setCell ⟨b, 3, none⟩ a3).setCell ⟨b, 4, none⟩ a4).setCell ⟨b, 5, none⟩ a5).setCell ⟨b, 6, none⟩ a6
theorem chain7_keep (W : World) (b : Nat) (a0 a1 a2 a3 a4 a5 a6 : Value) : Keep (fun x => x = b) W (chain7 W b a0 a1 a2 a3 a4 a5 a6) :=
  ((((((((Keep.refl (fun x => x = b) W).setCell (a := ⟨b, 0, none⟩) a0 (fun _ => rfl)).setCell (a := ⟨b, 1, none⟩) a1 (fun _ => rfl)).setCell (a := ⟨b, 2, none⟩) a2 (fun _ => rfl)).setCell (a := ⟨b, 3, none⟩) a3 (fun _ => rfl)).setCell (a := ⟨b, 4, none⟩) a4 (fun _ => rfl)).setCell (a := ⟨b, 5, none⟩) a5 (fun _ => rfl)).setCell (a := ⟨b, 6, none⟩) a6 (fun _ => rfl))
theorem chain7_heap {W : World} {b : Nat} {r0 r1 r2 r3 r4 r5 r6 : Value} {t : TypeId} (h : W.heap[b]? = some (.cells #[r0, r1, r2, r3, r4, r5, r6] t (0, 0))) (a0 a1 a2 a3 a4 a5 a6 : Value) :
    (chain7 W b a0 a1 a2 a3 a4 a5 a6).heap[b]? = some (.cells #[a0, a1, a2, a3, a4, a5, a6] t (0, 0)) := by
  have h0 : (W.setCell ⟨b, 0, none⟩ a0).heap[b]? = some (.cells #[a0, r1, r2, r3, r4, r5, r6] t (0, 0)) := by rw [heapV_setCell h]; rfl
  have h1 : ((W.setCell ⟨b, 0, none⟩ a0).setCell ⟨b, 1, none⟩ a1).heap[b]? = some (.cells #[a0, a1, r2, r3, r4, r5, r6] t (0, 0)) := by rw [heapV_setCell h0]; rfl
  have h2 : (((W.setCell ⟨b, 0, none⟩ a0).setCell ⟨b, 1, none⟩ a1).setCell ⟨b, 2, none⟩ a2).heap[b]? = some (.cells #[a0, a1, a2, r3, r4, r5, r6] t (0, 0)) := by rw [heapV_setCell h1]; rfl
  have h3 : ((((W.setCell ⟨b, 0, none⟩ a0).setCell ⟨b, 1, none⟩ a1).setCell ⟨b, 2, none⟩ a2).setCell ⟨b, 3, none⟩ a3).heap[b]? = some (.cells #[a0, a1, a2, a3, r4, r5, r6] t (0, 0)) := by rw [heapV_setCell h2]; rfl
  have h4 : (((((W.setCell ⟨b, 0, none⟩ a0).setCell ⟨b, 1, none⟩ a1).setCell ⟨b, 2, none⟩ a2).setCell ⟨b, 3, none⟩ a3).setCell ⟨b, 4, none⟩ a4).heap[b]? = some (.cells #[a0, a1, a2, a3, a4, r5, r6] t (0, 0)) := by rw [heapV_setCell h3]; rfl
  have h5 : ((((((W.setCell ⟨b, 0, none⟩ a0).setCell ⟨b, 1, none⟩ a1).setCell ⟨b, 2, none⟩ a2).setCell ⟨b, 3, none⟩ a3).setCell ⟨b, 4, none⟩ a4).setCell ⟨b, 5, none⟩ a5).heap[b]? = some (.cells #[a0, a1, a2, a3, a4, a5, r6] t (0, 0)) := by rw [heapV_setCell h4]; rfl
  unfold chain7
  rw [heapV_setCell h5]; rfl
end Go.V
end
