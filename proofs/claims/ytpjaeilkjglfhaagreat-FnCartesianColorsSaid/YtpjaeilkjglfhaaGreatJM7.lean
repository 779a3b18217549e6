/- The graph in plain lists, as it is read. -/
import Derived.Test.YtpjaeilkjglfhaaGreatJM4
import Derived.Handy
set_option linter.all false
section
namespace Go.Proofs.YtpjaeilkjglfhaaGreat
open Go.RowKit Go.V
structure PG where
  ids : List Int
  out : List (List Arc)
structure PG.Ok (G : PG) : Prop where
  asc : G.ids.Pairwise (· < ·)
  len : G.out.length = G.ids.length
  small : G.ids.length ≤ 1000
  rows : ∀ l ∈ G.out, Asc l ∧ ∀ a ∈ l, a.1 < G.ids.length
structure Plain (B : Nat) (w : World) (pb : Nat) (G : PG) : Prop where
  ok : G.Ok
  ex : ∃ iv ov nv rows, w.heap[pb]? = some (.cells #[iv, ov, nv] 261 (0, 0)) ∧ pb < B ∧ Row B w iv (ints G.ids) ∧ Row B w ov rows ∧ rows.length = G.ids.length ∧
    ∀ i : Nat, ∀ row l, rows[i]? = some row → G.out[i]? = some l → ArcRow w row l ∧ ∀ g, row.ownBlock = some g → g < B
theorem Plain.keep {B : Nat} {w w' : World} {pb : Nat} {G : PG} {S : Nat → Prop} (h : Plain B w pb G) (hk : Keep S w w') (hn : ∀ k, S k → B ≤ k) : Plain B w' pb G := by
  obtain ⟨ho, iv, ov, nv, rows, h1, h2, h3, h4, h5, h6⟩ := h
  refine ⟨ho, iv, ov, nv, rows, hk.get h1 (fun h => by have := hn _ h; omega), h2, h3.keep hk hn, h4.keep hk hn, h5, fun i row l hr hl => ?_⟩
  have := h6 i row l hr hl
  exact ⟨this.1.keep hk (fun g hg hs => by have := this.2 g hg; have := hn _ hs; omega), this.2⟩
theorem Plain.mono {B B' : Nat} {w : World} {pb : Nat} {G : PG} (h : Plain B w pb G) (hB : B ≤ B') : Plain B' w pb G := by
  obtain ⟨ho, iv, ov, nv, rows, h1, h2, h3, h4, h5, h6⟩ := h
  refine ⟨ho, iv, ov, nv, rows, h1, by omega, h3.mono hB, h4.mono hB, h5, fun i row l hr hl => ?_⟩
  have := h6 i row l hr hl
  exact ⟨this.1, fun g hg => by have := this.2 g hg; omega⟩
theorem Plain.keepF {B : Nat} {w w' : World} {pb : Nat} {G : PG} (h : Plain B w pb G) (hk : Keep (fun _ => False) w w') : Plain B w' pb G := h.keep hk (fun _ h => h.elim)
theorem Plain.drewN {B : Nat} {w : World} {pb : Nat} {G : PG} (h : Plain B w pb G) (n : Nat) : Plain B (w.drewN n) pb G := h.keepF ((Keep.refl _ _).drewN n)
abbrev pV (pb : Nat) : Value := .pointer (some ⟨pb, 0, none⟩)
abbrev uV (pb : Nat) : Value := .agg #[pV pb]
abbrev gV (pb : Nat) : Value := .iface 57 (uV pb)
set_option maxRecDepth 20000 in
theorem index_spec {B : Nat} {w : World} {pb : Nat} {G : PG} (h : Plain B w pb G) (k : Int) :
    Calls Tryz.prog 133 #[pV pb, .int .i64 k] w fun e w' => ∃ (i : Nat) (b : Bool), e = .returned (.tuple #[.int .i64 (i : Int), .bool b]) ∧ (b = true → G.ids[i]? = some k) ∧ (b = false → k ∉ G.ids) ∧ ∃ n, w' = w.drewN n := by
  obtain ⟨ho, iv, ov, nv, rows, h1, h2, h3, h4, h5, h6⟩ := h
  have c0 := cell_of h1 0
  have f0 := free_of h1 0
  simp only [List.getElem?_toArray, List.getElem?_cons_zero, List.getElem?_cons_succ] at c0
  have hb := bs64_spec h3 ho.asc k (by have := ho.small; omega)
  have HB := Lib.hid hb
  clear hb h1 h3 h4 h5 h6 ho
  go_enter Tryz.func133, Tryz.ntmps133
  go_wp2_with (first | ((with_reducible refine HB.out.mono ?_); rintro e w1 ⟨i, b, rfl, q1, q2, q3, n, rfl⟩))
  go_ret2
  exact ⟨i, b, rfl, q2, q3, n, rfl⟩
def PG.adj (G : PG) (u v : Int) : Prop := ∃ (i j : Nat) (l : List Arc), G.ids[i]? = some u ∧ G.ids[j]? = some v ∧ G.out[i]? = some l ∧ j ∈ l.map (·.1)
theorem PG.Ok.inj {G : PG} (h : G.Ok) {i j : Nat} {x : Int} (hi : G.ids[i]? = some x) (hj : G.ids[j]? = some x) : i = j := by
  obtain ⟨h1, rfl⟩ := List.getElem?_eq_some_iff.1 hi
  obtain ⟨h2, e⟩ := List.getElem?_eq_some_iff.1 hj
  rcases Nat.lt_trichotomy i j with h3 | h3 | h3
  · have := List.pairwise_iff_getElem.1 h.asc i j h1 h2 h3; omega
  · exact h3
  · have := List.pairwise_iff_getElem.1 h.asc j i h2 h1 h3; omega
theorem PG.adj_iff {G : PG} (h : G.Ok) {i k : Nat} {u v : Int} {l : List Arc} (hi : G.ids[i]? = some u) (hk : G.ids[k]? = some v) (hl : G.out[i]? = some l) : G.adj u v ↔ k ∈ l.map (·.1) := by
  constructor
  · rintro ⟨i', j, l', h1, h2, h3, h4⟩
    obtain rfl := h.inj h1 hi
    obtain rfl := h.inj h2 hk
    rw [hl] at h3; cases h3; exact h4
  · intro h4; exact ⟨i, k, l, hi, hk, hl, h4⟩
theorem asc_get {l : List Arc} (hs : Asc l) : ∀ (i j : Nat) (p q : Arc), i < j → l[i]? = some p → l[j]? = some q → p.1 < q.1 := fun i j p q hij hp hq => by
  obtain ⟨h1, rfl⟩ := List.getElem?_eq_some_iff.1 hp
  obtain ⟨h2, rfl⟩ := List.getElem?_eq_some_iff.1 hq
  exact List.pairwise_iff_getElem.1 hs i j h1 h2 hij
theorem asc_length {l : List Arc} {n : Nat} (hs : Asc l) (hn : ∀ a ∈ l, a.1 < n) : l.length ≤ n := by
  have h1 : ∀ (i : Nat) (p : Arc), l[i]? = some p → i ≤ p.1 := by
    intro i
    induction i with
    | zero => intros; exact Nat.zero_le _
    | succ i ih =>
      intro p hp
      have hi := (List.getElem?_eq_some_iff.1 hp).1
      have a := ih _ (List.getElem?_eq_getElem (by omega))
      have b := asc_get hs i (i + 1) _ _ (by omega) (List.getElem?_eq_getElem (by omega)) hp
      omega
  rcases Nat.eq_zero_or_pos l.length with h | h
  · omega
  · have a := h1 (l.length - 1) _ (List.getElem?_eq_getElem (by omega))
    have b := hn _ (List.getElem_mem (l := l) (n := l.length - 1) (by omega))
    omega
theorem FoundAt.mem {l : List Arc} {k i : Nat} {b : Bool} (hs : Asc l) (h : FoundAt l k i b) : b = true ↔ k ∈ l.map (·.1) := by
  obtain ⟨h1, h2, h3, h4⟩ := h
  constructor
  · rintro rfl
    cases hq : l[i]? with
    | none => rw [hq] at h4; cases h4
    | some p => rw [hq] at h4; simp at h4; exact List.mem_map.2 ⟨p, List.mem_of_getElem? hq, h4⟩
  · intro hk
    obtain ⟨p, hp, rfl⟩ := List.mem_map.1 hk
    obtain ⟨j, hj⟩ := List.mem_iff_getElem?.1 hp
    have hij : i ≤ j := by
      rcases Nat.lt_or_ge j i with h | h
      · have := h2 j p h hj; omega
      · exact h
    have hjl := (List.getElem?_eq_some_iff.1 hj).1
    have hil : i < l.length := by omega
    have e := h3 i _ (Nat.le_refl _) (List.getElem?_eq_getElem hil)
    rcases Nat.eq_or_lt_of_le hij with rfl | h
    · rw [h4, hj]; simp
    · have hlt := asc_get hs i j _ _ h (List.getElem?_eq_getElem hil) hj
      omega
theorem storeF (W : World) (a : Addr) (f : Nat) (m : Mode) : (store a (.float .f64 f) m).run Tryz.prog W = stored Tryz.prog W a (.float .f64 f) m := run_store Tryz.prog W a _ m rfl
theorem two_cells {W : World} {b : Nat} {u0 u1 : Value} {t : TypeId} (h : W.heap[b]? = some (.cells #[u0, u1] t (0, 0))) (x y : Value) :
    (W.setCell ⟨b, 0, none⟩ x).cell? ⟨b, 0, none⟩ = some x ∧ (W.setCell ⟨b, 0, none⟩ x).cell? ⟨b, 1, none⟩ = some u1 ∧
    ((W.setCell ⟨b, 0, none⟩ x).setCell ⟨b, 1, none⟩ y).cell? ⟨b, 0, none⟩ = some x ∧ ((W.setCell ⟨b, 0, none⟩ x).setCell ⟨b, 1, none⟩ y).cell? ⟨b, 1, none⟩ = some y := by
  have h1 := heapV_setCell h 0 x
  have h2 := heapV_setCell h1 1 y
  refine ⟨?_, ?_, ?_, ?_⟩
  · rw [cell_of h1]; rfl
  · rw [cell_of h1]; rfl
  · rw [cell_of h2]; rfl
  · rw [cell_of h2]; rfl
set_option maxRecDepth 20000 in
theorem find_spec {B : Nat} {w : World} {pb : Nat} {G : PG} (h : Plain B w pb G) (u v : Int) :
    Calls Tryz.prog 344 #[pV pb, .int .i64 u, .int .i64 v] w fun e w' => ∃ (a : Int) (f : Nat) (b : Bool), e = .returned (.tuple #[.agg #[.int .i64 a, .float .f64 f], .bool b]) ∧ (b = true ↔ G.adj u v) ∧ Keep (fun _ => False) w w' := by
  have hix := fun W (hk : Keep (fun _ => False) w W) x => index_spec (h.keepF hk) x
  -- no edge where one end is no node
  have hno : ∀ (i k : Nat) (b1 b2 : Bool), (b1 = true → G.ids[i]? = some u) → (b1 = false → u ∉ G.ids) → (b2 = true → G.ids[k]? = some v) → (b2 = false → v ∉ G.ids) → (b1 && b2) = false → ¬ G.adj u v := by
    rintro i k b1 b2 a1 a2 a3 a4 hb ⟨i', j, l, q1, q2, q3, q4⟩
    cases b1
    · exact a2 rfl (List.mem_of_getElem? q1)
    · cases b2
      · exact a4 rfl (List.mem_of_getElem? q2)
      · cases hb
  have hyes : ∀ (i k : Nat), G.ids[i]? = some u → G.ids[k]? = some v → ∃ l row ob off n cap, (∀ W, Keep (fun _ => False) w W → W.cell? ⟨pb, 1, none⟩ = some (.slice (some ⟨ob, off, none⟩) n cap) ∧ W.cell? ⟨ob, off + i, none⟩ = some row) ∧ i < n ∧
      (∀ W, Keep (fun _ => False) w W → Calls Tryz.prog 268 #[row, .int .i64 (k : Int), .func (.func 346) #[] #[]] W fun e w' => ∃ i b, FoundAt l k i b ∧ e = .returned (.tuple #[.int .i64 (i : Int), .bool b]) ∧ Keep (fun _ => False) W w') ∧
      (∀ (m : Nat) (b : Bool), FoundAt l k m b → (b = true ↔ G.adj u v)) ∧
      (∀ m, FoundAt l k m true → ∃ rb n cap p f, row = .slice (some ⟨rb, 0, none⟩) n cap ∧ m < n ∧ ∀ W, Keep (fun _ => False) w W → W.cell? ⟨rb, m * 2, none⟩ = some (.int .i64 p) ∧ W.cell? ⟨rb, m * 2 + 1, none⟩ = some (.float .f64 f)) := by
    intro i k hi hk
    have ho := h.ok
    obtain ⟨_, iv, ov, nv, rows, h1, h2, h3, h4, h5, h6⟩ := id h
    have hin := (List.getElem?_eq_some_iff.1 hi).1
    have hir : i < rows.length := by omega
    have hio : i < G.out.length := by rw [ho.len]; exact hin
    have hrow := List.getElem?_eq_getElem hir
    have hl := List.getElem?_eq_getElem hio
    have hA := h6 i _ _ hrow hl
    have hG := ho.rows _ (List.mem_of_getElem? hl)
    rcases h4 with ⟨_, h4⟩ | ⟨ob, off, cap, rfl, hob, hc, hc1, hc2⟩
    · rw [h4] at hir; cases hir
    have hkl := (List.getElem?_eq_some_iff.1 hk).1
    have hsm := ho.small
    have hlen : (G.out[i]).length ≤ 1073741824 := by have := asc_length hG.1 hG.2; omega
    refine ⟨G.out[i], rows[i], ob, off, rows.length, cap, fun W hk => ⟨?_, ?_⟩, hir, fun W hkW => ?_, fun m b hf => (hf.mem hG.1).trans (G.adj_iff ho hi hk hl).symm, fun m hf => ?_⟩
    · rw [hk.cell (a := ⟨pb, 1, none⟩) (lt_of_get h1) (fun h => h), cell_of h1]; rfl
    · have := hc i _ hrow
      rw [hk.cell (a := ⟨ob, off + i, none⟩) (World.block_lt_of_cell? _ _ this) (fun h => h)]; exact this
    · exact bsf_spec 346 (.inr rfl) (hA.1.keep hkW (fun _ _ h => h)) hG.1 k (by omega) (fun p hp => by have := hG.2 p hp; omega) hlen
    · obtain ⟨f1, f2, f3, f4⟩ := hf
      cases hq : (G.out[i])[m]? with
      | none => rw [hq] at f4; cases f4
      | some p =>
        have hm := (List.getElem?_eq_some_iff.1 hq).1
        rcases hA.1.form with ⟨_, e⟩ | ⟨rb, cap', e, hg, hc3, hc4⟩
        · rw [e] at hm; cases hm
        have hAA := hA.1
        rw [e] at hAA ⊢
        refine ⟨rb, _, cap', p.1, p.2, rfl, hm, fun W hk => ?_⟩
        have hc := (hAA.keep hk (fun _ _ h => h)).cell hq
        exact ⟨hc.1, hc.2.1⟩
  have HIX := Lib.hid hix
  have HNO := Lib.hid hno
  have HY := Lib.hid hyes
  have hsf := storeF
  obtain ⟨ho, iv, ov, nv, rows, h1, h2, h3, h4, h5, h6⟩ := h
  clear hix hno hyes h1 h3 h4 h5 h6 ho
  go_enter Tryz.func344, Tryz.ntmps344
  go_wp2_with (first
    | ((with_reducible refine (HIX.out _ (by repeat first | exact Keep.refl _ _ | assumption | apply Keep.alloc | apply Keep.drewN | apply Keep.drew) u).mono ?_); rintro e w1 ⟨i1, b1, rfl, p1, p2, n1, rfl⟩)
    | ((with_reducible refine (HIX.out _ (by repeat first | exact Keep.refl _ _ | assumption | apply Keep.alloc | apply Keep.drewN | apply Keep.drew) v).mono ?_); rintro e w2 ⟨i2, b2, rfl, p3, p4, n2, rfl⟩; have hno := HNO.out i1 i2 b1 b2 p1 p2 p3 p4; have HNO2 := Lib.hid hno; clear hno; rcases b1 with _ | _; rotate_left; rcases b2 with _ | _; rotate_left; obtain ⟨l, row, ob, off, n, cap, hcc1, hn, hbs, hadj, hget⟩ := HY.out i1 i2 (p1 rfl) (p3 rfl); have c1 := fun o => (hcc1 (w.alloc o) ((Keep.refl _ _).alloc _)).1; have c2 := fun o => (hcc1 (w.alloc o) ((Keep.refl _ _).alloc _)).2; have HCC1 := Lib.hid hcc1; clear hcc1; have HBS := Lib.hid hbs; have HADJ := Lib.hid hadj; have HGET := Lib.hid hget; clear hbs hadj hget; rotate_left)
    | ((with_reducible refine (HBS.out _ (by repeat first | exact Keep.refl _ _ | assumption | apply Keep.alloc | apply Keep.drewN | apply Keep.drew)).mono ?_); (rintro e w3 ⟨m, b3, hf, rfl, hk3⟩; have hB := hk3.get (heap_new w _) (fun h => h); have k0 := cell_of hB 0; have k1 := cell_of hB 1; have kf := free_of hB; have kz := fun x y => (two_cells hB x y).1; have ky := fun x y => (two_cells hB x y).2.1; have kx := fun x y => (two_cells hB x y).2.2.1; have kw := fun x y => (two_cells hB x y).2.2.2; simp only [List.getElem?_toArray, List.getElem?_cons_zero, List.getElem?_cons_succ] at k0 k1; have hkw : Keep (fun _ => False) w w3 := Keep.trans (by repeat first | exact Keep.refl _ _ | apply Keep.alloc | apply Keep.drewN | apply Keep.drew) hk3 (fun _ _ h => h); have HADJ2 := Lib.hid (HADJ.out _ _ hf); have d1 := (HCC1.out _ hkw).1; have d2 := (HCC1.out _ hkw).2; rcases b3 with _ | _; rotate_left; obtain ⟨rb, n', cap', p, f, rfl, hm, hcc⟩ := HGET.out _ hf; have hc0 := (hcc _ hkw).1; have hc1 := (hcc _ hkw).2; clear hcc; clear hB; rotate_left; clear hB; rotate_left))
    )
  · go_returns
    exact ⟨_, _, false, rfl, ⟨fun h => (by cases h), fun h => absurd h (HNO2.out (by cases b2 <;> rfl))⟩, by repeat first | exact Keep.refl _ _ | assumption | apply Keep.alloc | apply Keep.drewN | apply Keep.drew | (refine Keep.setCell ?_ _ (fun h => absurd h (Nat.lt_irrefl _)))⟩
  · go_returns
    exact ⟨_, _, false, rfl, ⟨fun h => (by cases h), fun h => absurd h (HNO2.out rfl)⟩, by repeat first | exact Keep.refl _ _ | assumption | apply Keep.alloc | apply Keep.drewN | apply Keep.drew | (refine Keep.setCell ?_ _ (fun h => absurd h (Nat.lt_irrefl _)))⟩
  · (try simp only [Exit.inBlock, Exit.then]); refine bodyPost_ret (by simp [results, Tryz.results344, go_sem, kz, ky, kx, kw]; try rfl) rfl ?_
    exact ⟨_, _, true, rfl, (by simpa using HADJ2.out), (hkw.setCell _ (fun h => absurd h (Nat.lt_irrefl _))).setCell _ (fun h => absurd h (Nat.lt_irrefl _))⟩
  · (try simp only [Exit.inBlock, Exit.then]); refine bodyPost_ret (by simp [results, Tryz.results344, go_sem, kz, ky, kx, kw]; try rfl) rfl ?_
    exact ⟨_, _, false, rfl, (by simpa using HADJ2.out), (hkw.setCell _ (fun h => absurd h (Nat.lt_irrefl _))).setCell _ (fun h => absurd h (Nat.lt_irrefl _))⟩
end Go.Proofs.YtpjaeilkjglfhaaGreat
end
/- The methods of the graph that is read. -/
section
namespace Go.Proofs.YtpjaeilkjglfhaaGreat
open Go.RowKit Go.V
theorem infoNode : (Tryz.prog.info? 104).map (fun i => (i.zero, i.size, i.bytes)) = some (some .nilIface, 1, 16) := by kernel_rfl
set_option maxRecDepth 20000 in
theorem uHas_spec {B : Nat} {w : World} {pb : Nat} {G : PG} (h : Plain B w pb G) (u v : Int) :
    Calls Tryz.prog 338 #[uV pb, .int .i64 u, .int .i64 v] w fun e w' => ∃ b : Bool, e = .returned (.bool b) ∧ (b = true ↔ G.adj u v) ∧ Keep (fun _ => False) w w' := by
  have hf := fun W (hk : Keep (fun _ => False) w W) => find_spec (h.keepF hk) u v
  have HF := Lib.hid hf
  have hsf := storeF
  clear hf h
  go_enter Tryz.func338, Tryz.ntmps338
  go_wp2_with (first | (((with_reducible refine (HF.out _ (by repeat first | exact Keep.refl _ _ | assumption | apply Keep.alloc | apply Keep.drewN | apply Keep.drew | (refine Keep.setCell ?_ _ (fun h => absurd h (Nat.lt_irrefl _))))).mono ?_); rintro e w1 ⟨a, f, b, rfl, hb, hk1⟩); replace hk1 : Keep (fun _ => False) w w1 := Keep.trans (by repeat first | exact Keep.refl _ _ | assumption | apply Keep.alloc | apply Keep.drewN | apply Keep.drew | (refine Keep.setCell ?_ _ (fun h => absurd h (Nat.lt_irrefl _)))) hk1 (fun _ _ h => h)))
  go_ret
  exact ⟨b, rfl, hb, (by repeat first | exact Keep.refl _ _ | assumption | apply Keep.alloc | apply Keep.drewN | apply Keep.drew | (refine Keep.setCell ?_ _ (fun h => absurd h (Nat.lt_irrefl _))))⟩
set_option maxRecDepth 20000 in
theorem pedge_spec {B : Nat} {w : World} {pb : Nat} {G : PG} (h : Plain B w pb G) (u v : Int) :
    Calls Tryz.prog 339 #[pV pb, .int .i64 u, .int .i64 v] w fun e w' => ∃ x, e = .returned x ∧ (x = .nilIface ↔ ¬ G.adj u v) ∧ (G.adj u v → ∃ f, x = .iface 441 (.agg #[nodeV u, nodeV v, .float .f64 f])) ∧ Keep (fun _ => False) w w' := by
  have hf := fun W (hk : Keep (fun _ => False) w W) => find_spec (h.keepF hk) u v
  have HF := Lib.hid hf
  have hsf := storeF
  clear hf h
  go_enter Tryz.func339, Tryz.ntmps339
  go_wp2_with (first | (((with_reducible refine (HF.out _ (by repeat first | exact Keep.refl _ _ | assumption | apply Keep.alloc | apply Keep.drewN | apply Keep.drew | (refine Keep.setCell ?_ _ (fun h => absurd h (Nat.lt_irrefl _))))).mono ?_); rintro e w1 ⟨a, f, b, rfl, hb, hk1⟩); replace hk1 : Keep (fun _ => False) w w1 := Keep.trans (by repeat first | exact Keep.refl _ _ | assumption | apply Keep.alloc | apply Keep.drewN | apply Keep.drew | (refine Keep.setCell ?_ _ (fun h => absurd h (Nat.lt_irrefl _)))) hk1 (fun _ _ h => h); have HB := Lib.hid hb; clear hb; cases b))
  · go_ret
    exact ⟨_, rfl, ⟨fun _ h => absurd (HB.out.2 h) (by simp), fun _ => rfl⟩, fun h => absurd (HB.out.2 h) (by simp), (by repeat first | exact Keep.refl _ _ | assumption | apply Keep.alloc | apply Keep.drewN | apply Keep.drew | (refine Keep.setCell ?_ _ (fun h => absurd h (Nat.lt_irrefl _))))⟩
  · go_ret
    exact ⟨_, rfl, ⟨fun h => (by cases h), fun h => absurd (HB.out.1 (by simp)) h⟩, fun _ => ⟨_, rfl⟩, (by repeat first | exact Keep.refl _ _ | assumption | apply Keep.alloc | apply Keep.drewN | apply Keep.drew | (refine Keep.setCell ?_ _ (fun h => absurd h (Nat.lt_irrefl _))))⟩
set_option maxRecDepth 20000 in
theorem uEdge_spec {B : Nat} {w : World} {pb : Nat} {G : PG} (h : Plain B w pb G) (u v : Int) :
    Calls Tryz.prog 332 #[uV pb, .int .i64 u, .int .i64 v] w fun e w' => ∃ x, e = .returned x ∧ (x = .nilIface ↔ ¬ G.adj u v) ∧ (G.adj u v → ∃ f, x = .iface 441 (.agg #[nodeV u, nodeV v, .float .f64 f])) ∧ Keep (fun _ => False) w w' := by
  have hf := fun W (hk : Keep (fun _ => False) w W) => uHas_spec (h.keepF hk) u v
  have HF := Lib.hid hf
  have hg := fun W (hk : Keep (fun _ => False) w W) => pedge_spec (h.keepF hk) u v
  have HG := Lib.hid hg
  have hc : ∀ W, Keep (fun _ => False) (w.alloc (.cells #[pV pb] 57 (0, 0))) W → W.cell? ⟨w.heap.size, 0, none⟩ = some (pV pb) := fun W hk => by
    rw [cell_of (hk.get (heap_new w _) (fun h => h))]; rfl
  have HC := Lib.hid hc
  clear hf hg h hc
  go_enter Tryz.func332, Tryz.ntmps332
  go_wp2_with (first
    | (((with_reducible refine (HF.out _ (by repeat first | exact Keep.refl _ _ | assumption | apply Keep.alloc | apply Keep.drewN | apply Keep.drew | (refine Keep.setCell ?_ _ (fun h => absurd h (Nat.lt_irrefl _))))).mono ?_); rintro e w1 ⟨b, rfl, hb, hk1⟩); have hc1 := HC.out _ hk1; replace hk1 : Keep (fun _ => False) w w1 := Keep.trans (by repeat first | exact Keep.refl _ _ | assumption | apply Keep.alloc | apply Keep.drewN | apply Keep.drew | (refine Keep.setCell ?_ _ (fun h => absurd h (Nat.lt_irrefl _)))) hk1 (fun _ _ h => h); have HB := Lib.hid hb; clear hb; cases b)
    | (((with_reducible refine (HG.out _ (by repeat first | exact Keep.refl _ _ | assumption | apply Keep.alloc | apply Keep.drewN | apply Keep.drew | (refine Keep.setCell ?_ _ (fun h => absurd h (Nat.lt_irrefl _))))).mono ?_); rintro e w2 ⟨x, rfl, hx, hy, hk2⟩); replace hk2 : Keep (fun _ => False) w w2 := Keep.trans (by repeat first | exact Keep.refl _ _ | assumption | apply Keep.alloc | apply Keep.drewN | apply Keep.drew | (refine Keep.setCell ?_ _ (fun h => absurd h (Nat.lt_irrefl _)))) hk2 (fun _ _ h => h)))
  · go_ret
    exact ⟨_, rfl, ⟨fun _ h => absurd (HB.out.2 h) (by simp), fun _ => rfl⟩, fun h => absurd (HB.out.2 h) (by simp), (by repeat first | exact Keep.refl _ _ | assumption | apply Keep.alloc | apply Keep.drewN | apply Keep.drew | (refine Keep.setCell ?_ _ (fun h => absurd h (Nat.lt_irrefl _))))⟩
  · go_ret
    exact ⟨_, rfl, hx, hy, (by repeat first | exact Keep.refl _ _ | assumption | apply Keep.alloc | apply Keep.drewN | apply Keep.drew | (refine Keep.setCell ?_ _ (fun h => absurd h (Nat.lt_irrefl _))))⟩
end Go.Proofs.YtpjaeilkjglfhaaGreat
end
