/- The graph in plain lists, as it is read. -/
import Derived.Test.YtdaccgelmcmfjaaGreatDoorJM4
import Derived.Handy
set_option linter.all false
section
namespace Go.Proofs.YtdaccgelmcmfjaaGreatDoor
open Go.RowKit Go.V
structure PG where
  ids : List Int
  out : List (List Arc)
structure PG.Ok (G : PG) : Prop where
  asc : G.ids.Pairwise (· < ·)
  len : G.out.length = G.ids.length
  small : G.ids.length ≤ 1000
  rows : ∀ l ∈ G.out, Asc l ∧ ∀ a ∈ l, a.1 < G.ids.length
structure Plain (B : Nat) (w : World) (pb : Nat) (G : PG) : Prop where
  ok : G.Ok
  ex : ∃ iv ov nv rows, w.heap[pb]? = some (.cells #[iv, ov, nv] 159 (0, 0)) ∧ pb < B ∧ Row B w iv (ints G.ids) ∧ Row B w ov rows ∧ rows.length = G.ids.length ∧
    ∀ i : Nat, ∀ row l, rows[i]? = some row → G.out[i]? = some l → ArcRow w row l ∧ ∀ g, row.ownBlock = some g → g < B
theorem Plain.keep {B : Nat} {w w' : World} {pb : Nat} {G : PG} {S : Nat → Prop} (h : Plain B w pb G) (hk : Keep S w w') (hn : ∀ k, S k → B ≤ k) : Plain B w' pb G := by
  obtain ⟨ho, iv, ov, nv, rows, h1, h2, h3, h4, h5, h6⟩ := h
  refine ⟨ho, iv, ov, nv, rows, hk.get h1 (fun h => by have := hn _ h; omega), h2, h3.keep hk hn, h4.keep hk hn, h5, fun i row l hr hl => ?_⟩
  have := h6 i row l hr hl
  exact ⟨this.1.keep hk (fun g hg hs => by have := this.2 g hg; have := hn _ hs; omega), this.2⟩
theorem Plain.mono {B B' : Nat} {w : World} {pb : Nat} {G : PG} (h : Plain B w pb G) (hB : B ≤ B') : Plain B' w pb G := by
  obtain ⟨ho, iv, ov, nv, rows, h1, h2, h3, h4, h5, h6⟩ := h
  refine ⟨ho, iv, ov, nv, rows, h1, by omega, h3.mono hB, h4.mono hB, h5, fun i row l hr hl => ?_⟩
  have := h6 i row l hr hl
  exact ⟨this.1, fun g hg => by have := this.2 g hg; omega⟩
theorem Plain.keepF {B : Nat} {w w' : World} {pb : Nat} {G : PG} (h : Plain B w pb G) (hk : Keep (fun _ => False) w w') : Plain B w' pb G := h.keep hk (fun _ h => h.elim)
theorem Plain.drewN {B : Nat} {w : World} {pb : Nat} {G : PG} (h : Plain B w pb G) (n : Nat) : Plain B (w.drewN n) pb G := h.keepF ((Keep.refl _ _).drewN n)
abbrev pV (pb : Nat) : Value := .pointer (some ⟨pb, 0, none⟩)
abbrev uV (pb : Nat) : Value := .agg #[pV pb]
abbrev gV (pb : Nat) : Value := .iface 96 (uV pb)
set_option maxRecDepth 20000 in
theorem index_spec {B : Nat} {w : World} {pb : Nat} {G : PG} (h : Plain B w pb G) (k : Int) :
    Calls Tryz.prog 73 #[pV pb, .int .i64 k] w fun e w' => ∃ (i : Nat) (b : Bool), e = .returned (.tuple #[.int .i64 (i : Int), .bool b]) ∧ (b = true → G.ids[i]? = some k) ∧ (b = false → k ∉ G.ids) ∧ ∃ n, w' = w.drewN n := by
  obtain ⟨ho, iv, ov, nv, rows, h1, h2, h3, h4, h5, h6⟩ := h
  have c0 := cell_of h1 0
  have f0 := free_of h1 0
  simp only [List.getElem?_toArray, List.getElem?_cons_zero, List.getElem?_cons_succ] at c0
  have hb := bs64_spec h3 ho.asc k (by have := ho.small; omega)
  have HB := Lib.hid hb
  clear hb h1 h3 h4 h5 h6 ho
  go_enter Tryz.func73, Tryz.ntmps73
  go_wp2_with (first | ((with_reducible refine HB.out.mono ?_); rintro e w1 ⟨i, b, rfl, q1, q2, q3, n, rfl⟩))
  go_ret2
  exact ⟨i, b, rfl, q2, q3, n, rfl⟩
def PG.adj (G : PG) (u v : Int) : Prop := ∃ (i j : Nat) (l : List Arc), G.ids[i]? = some u ∧ G.ids[j]? = some v ∧ G.out[i]? = some l ∧ j ∈ l.map (·.1)
theorem PG.Ok.inj {G : PG} (h : G.Ok) {i j : Nat} {x : Int} (hi : G.ids[i]? = some x) (hj : G.ids[j]? = some x) : i = j := by
  obtain ⟨h1, rfl⟩ := List.getElem?_eq_some_iff.1 hi
  obtain ⟨h2, e⟩ := List.getElem?_eq_some_iff.1 hj
  rcases Nat.lt_trichotomy i j with h3 | h3 | h3
  · have := List.pairwise_iff_getElem.1 h.asc i j h1 h2 h3; omega
  · exact h3
  · have := List.pairwise_iff_getElem.1 h.asc j i h2 h1 h3; omega
theorem asc_get {l : List Arc} (hs : Asc l) : ∀ (i j : Nat) (p q : Arc), i < j → l[i]? = some p → l[j]? = some q → p.1 < q.1 := fun i j p q hij hp hq => by
  obtain ⟨h1, rfl⟩ := List.getElem?_eq_some_iff.1 hp
  obtain ⟨h2, rfl⟩ := List.getElem?_eq_some_iff.1 hq
  exact List.pairwise_iff_getElem.1 hs i j h1 h2 hij
theorem asc_length {l : List Arc} {n : Nat} (hs : Asc l) (hn : ∀ a ∈ l, a.1 < n) : l.length ≤ n := by
  have h1 : ∀ (i : Nat) (p : Arc), l[i]? = some p → i ≤ p.1 := by
    intro i
    induction i with
    | zero => intros; exact Nat.zero_le _
    | succ i ih =>
      intro p hp
      have hi := (List.getElem?_eq_some_iff.1 hp).1
      have a := ih _ (List.getElem?_eq_getElem (by omega))
      have b := asc_get hs i (i + 1) _ _ (by omega) (List.getElem?_eq_getElem (by omega)) hp
      omega
  rcases Nat.eq_zero_or_pos l.length with h | h
  · omega
  · have a := h1 (l.length - 1) _ (List.getElem?_eq_getElem (by omega))
    have b := hn _ (List.getElem_mem (l := l) (n := l.length - 1) (by omega))
    omega
theorem FoundAt.mem {l : List Arc} {k i : Nat} {b : Bool} (hs : Asc l) (h : FoundAt l k i b) : b = true ↔ k ∈ l.map (·.1) := by
  obtain ⟨h1, h2, h3, h4⟩ := h
  constructor
  · rintro rfl
    cases hq : l[i]? with
    | none => rw [hq] at h4; cases h4
    | some p => rw [hq] at h4; simp at h4; exact List.mem_map.2 ⟨p, List.mem_of_getElem? hq, h4⟩
  · intro hk
    obtain ⟨p, hp, rfl⟩ := List.mem_map.1 hk
    obtain ⟨j, hj⟩ := List.mem_iff_getElem?.1 hp
    have hij : i ≤ j := by
      rcases Nat.lt_or_ge j i with h | h
      · have := h2 j p h hj; omega
      · exact h
    have hjl := (List.getElem?_eq_some_iff.1 hj).1
    have hil : i < l.length := by omega
    have e := h3 i _ (Nat.le_refl _) (List.getElem?_eq_getElem hil)
    rcases Nat.eq_or_lt_of_le hij with rfl | h
    · rw [h4, hj]; simp
    · have hlt := asc_get hs i j _ _ h (List.getElem?_eq_getElem hil) hj
      omega
theorem storeF (W : World) (a : Addr) (f : Nat) (m : Mode) : (store a (.float .f64 f) m).run Tryz.prog W = stored Tryz.prog W a (.float .f64 f) m := run_store Tryz.prog W a _ m rfl
theorem two_cells {W : World} {b : Nat} {u0 u1 : Value} {t : TypeId} (h : W.heap[b]? = some (.cells #[u0, u1] t (0, 0))) (x y : Value) :
    (W.setCell ⟨b, 0, none⟩ x).cell? ⟨b, 0, none⟩ = some x ∧ (W.setCell ⟨b, 0, none⟩ x).cell? ⟨b, 1, none⟩ = some u1 ∧
    ((W.setCell ⟨b, 0, none⟩ x).setCell ⟨b, 1, none⟩ y).cell? ⟨b, 0, none⟩ = some x ∧ ((W.setCell ⟨b, 0, none⟩ x).setCell ⟨b, 1, none⟩ y).cell? ⟨b, 1, none⟩ = some y := by
  have h1 := heapV_setCell h 0 x
  have h2 := heapV_setCell h1 1 y
  refine ⟨?_, ?_, ?_, ?_⟩
  · rw [cell_of h1]; rfl
  · rw [cell_of h1]; rfl
  · rw [cell_of h2]; rfl
  · rw [cell_of h2]; rfl
end Go.Proofs.YtdaccgelmcmfjaaGreatDoor
end
/- The methods of the graph that is read. -/
section
namespace Go.Proofs.YtdaccgelmcmfjaaGreatDoor
open Go.RowKit Go.V
theorem infoNode : (Tryz.prog.info? 66).map (fun i => (i.zero, i.size, i.bytes)) = some (some .nilIface, 1, 16) := by kernel_rfl
end Go.Proofs.YtdaccgelmcmfjaaGreatDoor
end
