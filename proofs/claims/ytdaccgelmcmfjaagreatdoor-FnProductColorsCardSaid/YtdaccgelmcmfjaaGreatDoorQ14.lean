/- coloring.dSaturExact: the least number of colours in which a partial colouring goes on. -/
import Derived.Test.YtdaccgelmcmfjaaGreatDoorQ12
import Derived.Test.YtdaccgelmcmfjaaGreatDoorJQ9
import Derived.Test.YtdaccgelmcmfjaaGreatDoorJQ4
import Derived.Test.YtdaccgelmcmfjaaGreatDoorJN3
import Derived.Deep.RegionHeld3
set_option linter.all false
namespace Go.Proofs.YtdaccgelmcmfjaaGreatDoor
open Go.RowKit Go.V
def Whole (G : PG) (D : PC) : Prop := (∀ u ∈ D.map (·.1), u ∈ G.ids) ∧ (∀ u ∈ G.ids, ∃ c, cget D u = some c) ∧ ∀ u v x, cget D u = some x → cget D v = some x → ¬ G.adj u v
def BestOk (w : World) (G : PG) (s : SG) (cb ub : Nat) (bv : Value) : Prop := bv = .map none ∨ ∃ m D, bv = .map (some m) ∧ ColAt w m D ∧ Whole G D ∧ m ≠ cb ∧ m ≠ ub ∧ m ≠ s.sb ∧ m ≠ s.ab
theorem BestOk.keep {w w' : World} {G : PG} {s : SG} {cb ub : Nat} {bv : Value} (h : BestOk w G s cb ub bv) (hk : Keep (fun b => b = s.sb ∨ b = s.ab ∨ b = cb ∨ b = ub) w w') : BestOk w' G s cb ub bv := by
  rcases h with h | ⟨m, D, h1, h2, h3, h4, h5, h6, h7⟩
  · exact .inl h
  · exact .inr ⟨m, D, h1, h2.keep hk (by rintro (e | e | e | e); exact h6 e; exact h7 e; exact h4 e; exact h5 e), h3, h4, h5, h6, h7⟩
structure DsxPre (B : Nat) (w : World) (G : PG) (s : SG) (pb cb ub : Nat) (C : PC) (U : List Int) (k kub : Nat) (bv : Value) : Prop where
  g : Plain B w pb G
  u : UG G
  b1 : B ≤ s.sb
  b2 : B ≤ s.ab
  b3 : B ≤ cb
  b4 : B ≤ ub
  sat : ∃ cnt curr heur cv wk, Sat w s pb cnt curr heur cv wk
  l : ∀ x, x ∈ s.l ↔ x ∈ G.ids
  nd : s.l.Nodup
  col : ColAt w cb C
  unc : SetAt w ub U
  ne : cb ≠ ub
  n1 : cb ≠ s.ib
  n2 : ub ≠ s.ib
  part : Part G.ids G.adj (cget C) k
  mem : ∀ x, x ∈ U ↔ x ∈ G.ids ∧ cget C x = none
  kle : k < kub ∨ (k ≤ kub ∧ Ext G.ids G.adj (cget C) kub)
  small : kub ≤ 1000
  best : BestOk w G s cb ub bv
def DsxPost (w : World) (G : PG) (s : SG) (pb cb ub : Nat) (C : PC) (U : List Int) (kub : Nat) (bv : Value) (e : Ending) (w' : World) : Prop :=
  ∃ (r : Nat) (rv : Value) (C' : PC) (U' : List Int), e = .returned (.tuple #[.int .i64 (r : Int), rv, .nilIface]) ∧ r ≤ kub ∧ BestOk w' G s cb ub rv ∧ ((r = kub ∧ rv = bv) ∨ (Colorable G.ids G.adj r ∧ rv ≠ .map none)) ∧
    (∀ m, Ext G.ids G.adj (cget C) m → r ≤ m) ∧ ColAt w' cb C' ∧ (∀ x, cget C' x = cget C x) ∧ SetAt w' ub U' ∧ (∀ x, x ∈ U' ↔ x ∈ U) ∧ (∃ cnt curr heur cv wk, Sat w' s pb cnt curr heur cv wk) ∧ Keep (fun b => b = s.sb ∨ b = s.ab ∨ b = cb ∨ b = ub) w w'
theorem Sat.mapNe {w : World} {s : SG} {pb : Nat} {cnt curr : Int} {heur cv wk : Value} {m : Nat} {kvs : KV} (h : Sat w s pb cnt curr heur cv wk) (hm : MapAt w m kvs) (hl : s.l ≠ []) : m ≠ s.sb ∧ m ≠ s.nb ∧ m ≠ s.db ∧ m ≠ s.ab := by
  obtain ⟨cs, a, _⟩ := h.adj
  obtain ⟨ds, b, _⟩ := h.deg
  refine ⟨MapAt.ne_cells hm h.head, ?_, MapAt.ne_cells hm b, MapAt.ne_cells hm a⟩
  rintro rfl
  obtain ⟨u, hu⟩ : ∃ u, s.l[0]? = some u := by
    rcases hh : s.l with _ | ⟨x, t⟩
    · exact absurd hh hl
    · exact ⟨x, rfl⟩
  have := h.node hu
  obtain ⟨es, c, h1, _⟩ := hm
  simp [World.cell?, h1] at this
theorem Sat.lookup {w : World} {s : SG} {pb : Nat} {cnt curr : Int} {heur cv wk : Value} (h : Sat w s pb cnt curr heur cv wk) {i : Nat} {u : Int} (hu : s.l[i]? = some u) : (Instr.lookup 83 (.map (some s.ib)) (.int .i64 u) false).run Tryz.prog w = .ok (.int .i64 (i : Int)) w := by
  obtain ⟨IX, hx, hx2⟩ := h.idx
  have := run_lookup_int Tryz.underlying83 Tryz.underlying2 hx u (zeroI w) false
  rw [this, kget_ckv, hx2 i u hu]; rfl
theorem boxCells {W : World} {b cb ub : Nat} {t : TypeId} (h : W.heap[b]? = some (.cells #[.map (some cb), .map (some ub)] t (0, 0))) : W.cell? ⟨b, 0, none⟩ = some (.map (some cb)) ∧ W.cell? ⟨b, 1, none⟩ = some (.map (some ub)) := by
  constructor <;> (rw [cell_of h]; rfl)
theorem HasI_true {w : World} {m : Nat} {ks : List Int} (h : SetAt w m ks) (k : Int) (hk : k ∈ ks) :
    Calls Tryz.prog 101 #[.map (some m), .int .i64 k] w fun e w' => e = .returned (.bool true) ∧ Keep (fun _ => False) w w' := by
  have := HasI_spec h k
  rwa [show ks.contains k = true by simpa using hk] at this
theorem HasI_false {w : World} {m : Nat} {ks : List Int} (h : SetAt w m ks) (k : Int) (hk : k ∉ ks) :
    Calls Tryz.prog 101 #[.map (some m), .int .i64 k] w fun e w' => e = .returned (.bool false) ∧ Keep (fun _ => False) w w' := by
  have := HasI_spec h k
  rwa [show ks.contains k = false by simpa using hk] at this
theorem len_lset {w : World} {m : Nat} {ks : List Int} (h : SetAt w m ks) : (Builtin.len_ #[143] 3 #[.map (some m)]).run Tryz.prog w = .ok (.int .i64 (ks.length : Int)) w := by
  have := run_len_int Tryz.underlying143 h 3
  rw [List.length_map] at this; exact this
theorem less_one {U U1 : List Int} {v : Int} (hn : U1.Nodup) (h : ∀ x, x ∈ U1 ↔ x ∈ U ∧ x ≠ v) (hv : v ∈ U) : U1.length < U.length := by
  have := nodup_le (ids := U) (l := v :: U1) (List.nodup_cons.2 ⟨fun hm => ((h v).1 hm).2 rfl, hn⟩) (fun u hu => by
    rcases List.mem_cons.1 hu with rfl | hu
    · exact hv
    · exact ((h u).1 hu).1)
  simp only [List.length_cons] at this; omega
section
variable {B : Nat} {w wr w' : World} {G : PG} {s : SG} {pb cb ub : Nat} {C C1 : PC} {U U1 FF : List Int} {k kub r : Nat} {bv rv : Value} {v : Int}
theorem upd_of (h : ∀ u, u ≠ v → cget C1 u = cget C u) (c : Nat) : cget (cput C1 v c) = upd (cget C) v c := by
  funext u
  rw [cget_cput]; unfold upd
  split
  · rfl
  · rename_i hu; exact h u hu
theorem dsx_end (H : DsxPre B w G s pb cb ub C U k kub bv) (hf : Fea G.adj (cget C) v k kub FF) (hv : v ∈ U) (hrk : r ≤ kub) (hbest : BestOk wr G s cb ub rv) (hres : (r = kub ∧ rv = bv) ∨ (Colorable G.ids G.adj r ∧ rv ≠ .map none))
    (hlow : ∀ c : Nat, (c : Int) ∈ FF → (c : Int) ∉ ([] : List Int) → ∀ m, Ext G.ids G.adj (upd (cget C) v c) m → r ≤ m) (hc1 : ColAt wr cb C1) (hu1 : SetAt wr ub U1) (hc1o : ∀ u, u ≠ v → cget C1 u = cget C u) (hu1m : ∀ x, x ∈ U1 ↔ x ∈ U ∧ x ≠ v)
    (hsat : ∃ cnt curr heur cv wk, Sat wr s pb cnt curr heur cv wk) (hk : Keep (fun b => b = s.sb ∨ b = s.ab ∨ b = cb ∨ b = ub) w wr) (hc : ColAt w' cb (cdel C1 v)) (hu : SetAt w' ub (sadd U1 v)) (hk2 : Keep (fun b => b = cb ∨ b = ub) wr w') :
    DsxPost w G s pb cb ub C U kub bv (.returned (.tuple #[.int .i64 (r : Int), rv, .nilIface])) w' := by
  have hvm := (H.mem v).1 hv
  have hne : s.l ≠ [] := fun e => by have := (H.l v).2 hvm.1; rw [e] at this; cases this
  have hkle : k ≤ kub := by rcases H.kle with h | h; omega; exact h.1
  have hk3 : Keep (fun b => b = s.sb ∨ b = s.ab ∨ b = cb ∨ b = ub) wr w' := hk2.mono (by rintro b _ (h | h); exact .inr (.inr (.inl h)); exact .inr (.inr (.inr h)))
  obtain ⟨cnt, curr, heur, cv, wk, hs⟩ := hsat
  obtain ⟨u1, u2, u3, u4⟩ := hs.mapNe hu1 hne
  obtain ⟨b1, b2, b3, b4⟩ := hs.mapNe hc1 hne
  have u5 := H.n2
  have b5 := H.n1
  refine ⟨r, rv, _, _, rfl, hrk, hbest.keep hk3, hres, fun m hx => hf.fin H.part H.u.irr hvm.1 hvm.2 hrk hkle (fun c hc m hx => hlow c hc (fun h => by cases h) m hx) hx, hc, fun x => ?_, hu, fun x => ?_, ⟨cnt, curr, heur, cv, wk, hs.keep hk2 (by omega) (by omega) (by omega) (by omega) (by omega)⟩, hk.trans hk3 (fun _ _ h => h)⟩
  · rw [cget_cdel]
    split
    · rename_i e; rw [e, hvm.2]
    · rename_i e; exact hc1o x e
  · rw [mem_sadd, hu1m]
    constructor
    · rintro (h | rfl)
      · exact h.1
      · exact hv
    · intro h
      by_cases e : x = v
      · exact .inr e
      · exact .inl ⟨h, e⟩
theorem dsx_pre (H : DsxPre B w G s pb cb ub C U k kub bv) (hv : v ∈ U) {c kk : Nat} (hp : Part G.ids G.adj (upd (cget C) v c) kk) (hkk : kk < r) (hrk : r ≤ kub) (hbest : BestOk wr G s cb ub rv)
    (hc1 : ColAt wr cb (cput C1 v c)) (hu1 : SetAt wr ub U1) (hc1o : ∀ u, u ≠ v → cget C1 u = cget C u) (hu1m : ∀ x, x ∈ U1 ↔ x ∈ U ∧ x ≠ v)
    (hsat : ∃ cnt curr heur cv wk, Sat wr s pb cnt curr heur cv wk) (hk : Keep (fun b => b = s.sb ∨ b = s.ab ∨ b = cb ∨ b = ub) w wr) : DsxPre B wr G s pb cb ub (cput C1 v c) U1 kk r rv := by
  refine ⟨H.g.keep hk (by rintro b (rfl | rfl | rfl | rfl); exact H.b1; exact H.b2; exact H.b3; exact H.b4), H.u, H.b1, H.b2, H.b3, H.b4, hsat, H.l, H.nd, hc1, hu1, H.ne, H.n1, H.n2, by rw [upd_of hc1o]; exact hp, fun x => ?_, .inl hkk, by have := H.small; omega, hbest⟩
  rw [hu1m, H.mem, cget_cput]
  constructor
  · rintro ⟨⟨h1, h2⟩, h3⟩
    rw [if_neg h3, hc1o x h3]; exact ⟨h1, h2⟩
  · rintro ⟨h1, h2⟩
    split at h2
    · cases h2
    · rename_i h3; rw [hc1o x h3] at h2; exact ⟨⟨h1, h2⟩, h3⟩
end
theorem dsx_low {ids : List Int} {adj : Int → Int → Prop} {f : Int → Option Nat} {v : Int} {FF R : List Int} {c r r2 : Nat} (hlow : ∀ c : Nat, (c : Int) ∈ FF → (c : Int) ∉ R → ∀ m, Ext ids adj (upd f v c) m → r ≤ m) (hr : r2 ≤ r) (hc : ∀ m, Ext ids adj (upd f v c) m → r2 ≤ m) :
    ∀ c' : Nat, (c' : Int) ∈ FF → (c' : Int) ∉ sdel R (c : Int) → ∀ m, Ext ids adj (upd f v c') m → r2 ≤ m := fun c' h1 h2 m hx => by
  by_cases e : c' = c
  · subst e; exact hc m hx
  · refine Nat.le_trans hr (hlow c' h1 (fun h => h2 (mem_sdel.2 ⟨h, by omega⟩)) m hx)
theorem dsx_skip {ids : List Int} {adj : Int → Int → Prop} {f : Int → Option Nat} {v : Int} {FF : List Int} {k kub r c : Nat} (hf : Fea adj f v k kub FF) (hp : Part ids adj f k) (hirr : ∀ u, ¬ adj u u) (hs : ∀ a b, adj a b → adj b a) (hv : v ∈ ids) (hfv : f v = none) (hc : (c : Int) ∈ FF)
    (h1 : c < k → r ≤ k) (h2 : c = k → r ≤ k + 1) (m : Nat) (hx : Ext ids adj (upd f v c) m) : r ≤ m := by
  rcases hf.part hp hirr hs hv hfv hc with ⟨h3, h4⟩ | ⟨h3, _, h4⟩
  · exact Nat.le_trans (h1 h3) (Ext.le h4 hx)
  · exact Nat.le_trans (h2 h3) (Ext.le h4 hx)
theorem BestOk.next {w w' : World} {G : PG} {s : SG} {cb ub rb fb : Nat} {bv : Value} {kvs rest : KV} (h : BestOk w G s cb ub bv) (hr : Rng w rb fb kvs rest) (hk : Keep (fun b => b = rb) w w') : BestOk w' G s cb ub bv := by
  rcases h with h | ⟨m, D, h1, h2, h3, h4⟩
  · exact .inl h
  · refine .inr ⟨m, D, h1, h2.keep hk (fun e => ?_), h3, h4⟩
    obtain ⟨es, c, h5, _⟩ := h2
    obtain ⟨es', c', seen, h6, h7, h8, _⟩ := hr
    rw [e, h8] at h5; cases h5
theorem Sat.next {w w' : World} {s : SG} {pb rb fb : Nat} {cnt curr : Int} {heur cv wk : Value} {kvs rest : KV} (h : Sat w s pb cnt curr heur cv wk) (hr : Rng w rb fb kvs rest) (hk : Keep (fun b => b = rb) w w') (hne : s.l ≠ []) : Sat w' s pb cnt curr heur cv wk := by
  obtain ⟨es', c', seen, h6, h7, h8, _⟩ := hr
  refine h.keep hk (fun e => ?_) (fun e => ?_) (fun e => ?_) (fun e => ?_) (fun e => ?_)
  · have := h.head; rw [e, h8] at this; cases this
  · obtain ⟨u, hu⟩ : ∃ u, s.l[0]? = some u := by
      rcases hh : s.l with _ | ⟨x, t⟩
      · exact absurd hh hne
      · exact ⟨x, rfl⟩
    have := h.node hu
    rw [e] at this
    simp [World.cell?, h8] at this
  · obtain ⟨IX, ⟨es, c, h1, _⟩, _⟩ := h.idx; rw [e, h8] at h1; cases h1
  · obtain ⟨cs, h1, _⟩ := h.deg; rw [e, h8] at h1; cases h1
  · obtain ⟨cs, h1, _⟩ := h.adj; rw [e, h8] at h1; cases h1
def DsxAll (n : Nat) : Prop := ∀ (B : Nat) (w : World) (G : PG) (s : SG) (pb cb ub : Nat) (C : PC) (U : List Int) (k kub : Nat) (bv : Value), U.length < n → DsxPre B w G s pb cb ub C U k kub bv →
    Calls Tryz.prog 58 #[.nilIface, s.ptr, candV cb ub, .int .i64 (k : Int), .int .i64 (kub : Int), bv] w (DsxPost w G s pb cb ub C U kub bv)
theorem DsxPre.keys {B : Nat} {w : World} {G : PG} {s : SG} {pb cb ub : Nat} {C : PC} {U : List Int} {k kub : Nat} {bv : Value} (H : DsxPre B w G s pb cb ub C U k kub bv) : ∀ u ∈ C.map (·.1), u ∈ G.ids := fun u hu => by
  cases h : cget C u with
  | none => exact absurd hu (cget_none.1 h)
  | some x => exact (H.part.dom u x h).1
theorem dsx_full {B : Nat} {w w1 : World} {G : PG} {s : SG} {pb cb ub : Nat} {C D : PC} {U : List Int} {k kub m : Nat} {bv : Value} (H : DsxPre B w G s pb cb ub C U k kub bv) (hU : U.length = 0)
    (hm : w.heap.size ≤ m) (hd : ColAt w1 m D) (hde : ∀ u, cget D u = cget C u) (hk : Keep (fun _ => False) w w1) : DsxPost w G s pb cb ub C U kub bv (.returned (.tuple #[.int .i64 (k : Int), .map (some m), .nilIface])) w1 := by
  obtain ⟨cnt, curr, heur, cv, wk, hs⟩ := H.sat
  have hib : s.ib < w.heap.size := by obtain ⟨IX, a, _⟩ := hs.idx; exact a.lt
  have h1 := H.col.lt
  have h2 := H.unc.lt
  have h3 := hs.sb_lt
  have h4 := hs.ab_lt
  have hU0 : U = [] := List.length_eq_zero_iff.1 hU
  have hkle : k ≤ kub := by rcases H.kle with h | h; omega; exact h.1
  have hall : ∀ u ∈ G.ids, ∃ x, cget C u = some x := fun u hu => by
    cases h : cget C u with
    | some x => exact ⟨x, rfl⟩
    | none =>
      have := (H.mem u).2 ⟨hu, h⟩
      rw [hU0] at this; cases this
  have hwhole : Whole G D := by
    refine ⟨fun u hu => ?_, fun u hu => ?_, fun u v x hu hv => ?_⟩
    · cases h : cget D u with
      | none => exact absurd hu (cget_none.1 h)
      | some x => rw [hde] at h; exact (H.part.dom u x h).1
    · obtain ⟨x, hx⟩ := hall u hu
      exact ⟨x, by rw [hde]; exact hx⟩
    · rw [hde] at hu hv
      exact H.part.apart u v x hu hv
  refine ⟨k, _, C, U, rfl, hkle, .inr ⟨m, D, rfl, hd, hwhole, by omega, by omega, by omega, by omega⟩, .inr ⟨H.part.full fun u hu => ?_, by simp⟩, fun m' hx => Ext.le H.part hx, H.col.keepF hk, fun _ => rfl, H.unc.keep hk (fun h => h), fun _ => Iff.rfl, ⟨_, _, _, _, _, hs.keepF hk⟩, hk.mono (fun _ _ h => h.elim)⟩
  exact hall u hu
set_option maxHeartbeats 16000000 in
set_option maxRecDepth 100000 in
theorem dsx_step (n : Nat) (ih : DsxAll n) {B : Nat} {w : World} {G : PG} {s : SG} {pb cb ub : Nat} {C : PC} {U : List Int} {k kub : Nat} {bv : Value} (hl : U.length < n + 1) (H : DsxPre B w G s pb cb ub C U k kub bv) :
    Calls Tryz.prog 58 #[.nilIface, s.ptr, candV cb ub, .int .i64 (k : Int), .int .i64 (kub : Int), bv] w (DsxPost w G s pb cb ub C U kub bv) := by
  obtain ⟨cnt, curr, heur, cv, wk, hs⟩ := H.sat
  have hcb := H.col.lt
  have hub := H.unc.lt
  have hlen := fun W (hk : Keep (fun _ => False) w W) => len_lset (H.unc.keep hk (fun h => h))
  have HLEN := Lib.hid hlen
  clear hlen
  have hbox0 : (w.alloc (.cells #[.map (some cb), .map (some ub)] 145 (0, 0))).heap[w.heap.size]? = some (.cells #[.map (some cb), .map (some ub)] 145 (0, 0)) := heap_new w _
  obtain ⟨c0, c1⟩ := boxCells hbox0
  have HBOX0 := Lib.hid hbox0
  clear hbox0
  have hreset : ∀ W, Keep (fun _ => False) w W → Calls Tryz.prog 109 #[s.ptr, .map (some cb)] W (ResetPost W s pb cnt curr heur wk cb G C) := fun W hk => reset_spec (H.g.keepF hk) H.u.ok ⟨H.b1, H.b2⟩ (hs.keepF hk) (H.col.keepF hk) H.l H.nd H.keys
  have hdsat : ∀ W, Plain B W pb G → Sat W s pb cnt curr heur (.map (some cb)) wk → ColAt W cb C → Calls Tryz.prog 54 #[s.ptr] W fun e w' => ∃ r : Int, e = .returned (.int .i64 r) ∧ ((r = -1 ∧ ∀ u ∈ s.l, (cget C u).isSome) ∨ ∃ (i : Nat) (u : Int), r = (i : Int) ∧ s.l[i]? = some u ∧ cget C u = none) ∧ Keep (fun _ => False) W w' := fun W h1 h2 h3 => dsatur_spec h1 h2 h3 (fun u hu => (H.l u).1 hu)
  have hfull := fun (w1 : World) (m : Nat) (D : PC) => @dsx_full B w w1 G s pb cb ub C D U k kub m bv H
  have hkeep : ∀ W, Keep (fun b => b = s.sb ∨ b = s.ab ∨ b = cb ∨ b = ub) w W → Plain B W pb G := fun W hk => H.g.keep hk (by rintro b (rfl | rfl | rfl | rfl); exact H.b1; exact H.b2; exact H.b3; exact H.b4)
  have hcells : ∀ W cv', Sat W s pb cnt curr heur cv' wk → W.cell? ⟨s.sb, 3, none⟩ = some (.slice (some ⟨s.nb, s.noff, none⟩) s.l.length s.ncap) ∧ W.cell? ⟨s.sb, 4, none⟩ = some (.map (some s.ib)) ∧ W.cell? ⟨s.sb, 6, none⟩ = some (.slice (some ⟨s.ab, 0, none⟩) s.l.length s.l.length) := fun W cv' h => ⟨h.cells.1, h.cells.2.1, h.cells.2.2.2.1⟩
  have hnodes : ∀ W cv', Sat W s pb cnt curr heur cv' wk → ∀ (i : Nat) (u : Int), s.l[i]? = some u → W.cell? ⟨s.nb, s.noff + i, none⟩ = some (nodeV u) := fun W cv' h i u hu => h.node hu
  have HRESET := Lib.hid hreset
  have HDSAT := Lib.hid hdsat
  have HFULL := Lib.hid hfull
  have HKEEP := Lib.hid hkeep
  have HCELLS := Lib.hid hcells
  have HNODES := Lib.hid hnodes
  have hsb := hs.sb_lt
  have hab := hs.ab_lt
  have hsm := hs.small
  have hcne := hs.colNe H.col
  have HH := Lib.hid H
  have HS := Lib.hid hs
  clear hreset hdsat hfull hkeep hcells hnodes
  unfold SG.ptr at *
  generalize hll : s.l.length = nl at *
  clear H hs
  have hlen0 := HLEN.out _ ((Keep.refl (fun _ => False) w).alloc (.cells #[.map (some cb), .map (some ub)] 145 (0, 0)))
  have HIH := Lib.hid ih
  have hk0 := (Keep.refl (fun _ => False) w).alloc (.cells #[.map (some cb), .map (some ub)] 145 (0, 0))
  have HK0 := Lib.hid hk0
  clear ih hk0
  go_enter_defers Tryz.func58, Tryz.ntmps58
  go_upto_region 15 with (first
    | (((with_reducible refine (clone_spec (HH.out.col.keepF HK0.out)).mono ?_); rintro e w1 ⟨m, D, rfl, hm, hd, hde, hk⟩); have HD := Lib.hid hd; have HDE := Lib.hid hde; have HM := Lib.hid hm; have HK1 := Lib.hid (HK0.out.trans hk (fun _ _ h => h)); clear hd hde hk hm)
    | (((with_reducible refine (HRESET.out _ HK0.out).mono ?_); rintro e w1 ⟨KS, rfl, hsat, hadj, hdone, hk⟩); rw [World.size_alloc] at hadj; have hbox := hk.get HBOX0.out (by omega); obtain ⟨c0', c1'⟩ := boxCells hbox; have HBOX := Lib.hid hbox; clear hbox; obtain ⟨c3, c4, c6⟩ := HCELLS.out _ _ hsat; have HSAT := Lib.hid hsat; have HADJ := Lib.hid hadj; have HDONE := Lib.hid hdone; have HCOL := Lib.hid (HH.out.col.keep ((HK0.out.mono (T := fun b => b = s.sb ∨ b = s.ab) (fun _ _ h => h.elim)).trans hk (fun _ _ h => h)) (by omega)); have HK1 := Lib.hid ((HK0.out.mono (T := fun b => b = s.sb ∨ b = s.ab) (fun _ _ h => h.elim)).trans hk (fun _ _ h => h)); clear hsat hadj hdone hk))
  · have hz : ((U.length : Int) == 0) = true := by assumption
    have hz' : U.length = 0 := by simpa using hz
    refine ⟨_, (by simp [results, Tryz.results58, go_sem]; rfl), ?_⟩
    exact HFULL.out _ _ _ hz' (by have := HM.out; simp only [World.size_alloc] at this; omega) HD.out HDE.out HK1.out
  · have hz : ((U.length : Int) == 0) = false := by assumption
    have hz' : 0 < U.length := by
      rcases Nat.eq_zero_or_pos U.length with h | h
      · rw [h] at hz; simp at hz
      · exact h
    obtain ⟨u0, hu0⟩ : ∃ u, U[0]? = some u := ⟨_, List.getElem?_eq_getElem hz'⟩
    have hu1 := (HH.out.mem u0).1 (List.mem_of_getElem? hu0)
    have hnone : ¬ ∀ u ∈ s.l, (cget C u).isSome = true := fun h => by
      have := h u0 ((HH.out.l u0).2 hu1.1)
      rw [hu1.2] at this; cases this
    have HNONE := Lib.hid hnone
    have HW1 := Lib.hid (HK1.out.mono (T := fun b => b = s.sb ∨ b = s.ab ∨ b = cb ∨ b = ub) (fun b _ h => h.elim .inl (fun h => .inr (.inl h))))
    clear hz c0 c1 hlen0 hu1 hu0 hnone
    go_cut [18] from 65 to 73 (fun tv wx => ∃ (v : Int) (i : Nat), tv = .int .i64 v ∧ s.l[i]? = some v ∧ cget C v = none ∧ Keep (fun _ => False) w1 wx)
    case first =>
      have hkd : Keep (fun _ => False) w1 w1.drew := (Keep.refl _ w1).drew
      have HKD := Lib.hid hkd
      clear hkd
      have hds := (HDSAT.out _ (HKEEP.out _ (HW1.out.drew)) (HSAT.out.keepF HKD.out) (HCOL.out.keepF HKD.out)).mono (R' := fun e w' => ∃ (i : Nat) (u : Int), e = .returned (.int .i64 (i : Int)) ∧ s.l[i]? = some u ∧ cget C u = none ∧ Keep (fun _ => False) w1.drew w') (by
        rintro e w' ⟨r, rfl, hor, hk2⟩
        rcases hor with ⟨_, hno⟩ | ⟨i, u, rfl, hiu, hcu⟩
        · exact absurd hno HNONE.out
        · exact ⟨i, u, rfl, hiu, hcu, hk2⟩)
      have HDS := Lib.hid hds
      clear hds
      refine wp_region_noPanic ?_
      go_region_with (first
        | (((with_reducible refine (HDS.out).mono ?_); rintro e w2 ⟨i, u, rfl, hiu, hcu, hk2⟩); have cn := HNODES.out _ _ ((HSAT.out.keepF HKD.out).keepF hk2) i u hiu; obtain ⟨c3b, c4b, c6b⟩ := HCELLS.out _ _ ((HSAT.out.keepF HKD.out).keepF hk2); clear c4b c6b; have hin : i < nl := (by rw [← hll]; exact (List.getElem?_eq_some_iff.1 hiu).1); have e1 : (0 : Int) ≤ (i : Int) := Int.natCast_nonneg i; have e2 : (i : Int) < (nl : Int) := Int.ofNat_lt.2 hin; have HIU := Lib.hid hiu; have HCU := Lib.hid hcu; have HK2 := Lib.hid (HKD.out.trans hk2 (fun _ _ h => h)); clear hiu hcu hk2)
        | (((with_reducible refine (ID_at _ _).mono ?_); rintro e w3 ⟨rfl, rfl⟩)))
      all_goals refine NoPanic.normal ?_
      all_goals (go_wp2_with fail)
      all_goals go_meet
      all_goals exact ⟨u, i, rfl, HIU.out, HCU.out, HK2.out⟩
    case rest =>
      obtain ⟨v, i, rfl, hiv, hcv, hk2⟩ := hcut
      have hUv : v ∈ U := (HH.out.mem v).2 ⟨(HH.out.l v).1 (List.mem_of_getElem? hiv), hcv⟩
      have hsat2 := HSAT.out.keepF hk2
      have hW2 := HW1.out.trans hk2 (fun _ _ h => h.elim)
      have hne : s.l ≠ [] := fun e => by rw [e] at hiv; simp at hiv
      have hunc2 : SetAt wc ub U := HH.out.unc.keep ((HK1.out.trans hk2 (fun _ _ h => h.elim))) (fun h => by have := (HS.out.mapNe HH.out.unc hne); omega)
      have hcol2 : ColAt wc cb C := HCOL.out.keepF hk2
      obtain ⟨u1, u2, u3, u4⟩ := HS.out.mapNe HH.out.unc hne
      obtain ⟨b1, b2, b3, b4⟩ := HS.out.mapNe HH.out.col hne
      have u5 := HH.out.n2
      have b5 := HH.out.n1
      have ucb := HH.out.ne
      have hadj2 := HADJ.out.keep hk2 (fun h => h) (fun _ _ h => h)
      have hcol := fun (W : World) (hk : Keep (fun _ => False) wc W) => color_spec (cb := cb) (hunc2.keep hk (fun h => h)) hUv
      have HCOLOR := Lib.hid hcol
      have hin : i < nl := by rw [← hll]; exact (List.getElem?_eq_some_iff.1 hiv).1
      have HIN := Lib.hid (List.getElem?_eq_some_iff.1 hiv).1
      have hbox2 := hk2.get HBOX.out (fun h => h)
      obtain ⟨d0, d1⟩ := boxCells hbox2
      have hszw : w.heap.size < wc.heap.size := Nat.lt_of_lt_of_le (by simp) (Nat.le_trans (lt_of_get HBOX.out) hk2.size)
      have HBOX2 := Lib.hid hbox2
      have HSAT2 := Lib.hid hsat2
      have HADJ2 := Lib.hid hadj2
      have HCOL2 := Lib.hid hcol2
      have HW2 := Lib.hid hW2
      have HUV := Lib.hid hUv
      have HCV := Lib.hid hcv
      have HIV := Lib.hid hiv
      have HNE := Lib.hid hne
      clear hUv hsat2 hW2 hne hunc2 hcol2 hadj2 hcol hbox2 hcv hiv c0' c1' c3 c4 c6 HSAT HADJ HCOL HW1 HBOX HBOX0 HDSAT HRESET HFULL HLEN HNONE HK0 HK1 hk2
      go_upto_region 18 with (first
        | (((with_reducible refine (HCOLOR.out _ (Keep.refl _ _)).mono ?_); rintro e w3 ⟨rfl, hun, hk⟩); have hsat := HSAT2.out.keep hk (show ¬ _ = ub by omega) (show ¬ _ = ub by omega) (show ¬ _ = ub by omega) (show ¬ _ = ub by omega) (show ¬ _ = ub by omega); have hadj := HADJ2.out.keep hk (show ¬ _ = ub by omega) (fun j _ => show ¬ _ = ub by omega); have hbox := hk.get HBOX2.out (by omega); obtain ⟨g0, g1⟩ := boxCells hbox; obtain ⟨c3, c4, c6⟩ := HCELLS.out _ _ hsat; clear c3; have hlk := (hsat.keepF (Keep.drew (Keep.refl _ w3))).lookup HIV.out; have cab := hadj.cell (j := i) HIN.out; have HUN := Lib.hid hun; have HSAT3 := Lib.hid hsat; have HADJ3 := Lib.hid hadj; have HBOX3 := Lib.hid hbox; have HCOL3 := Lib.hid (HCOL2.out.keep hk (show ¬ _ = ub by omega)); have HW3 := Lib.hid (HW2.out.trans hk (fun b _ h => .inr (.inr (.inr h)))); clear hun hk hsat hadj hbox))
      go_cut [19] from 79 to 90 (fun tv wx => tv = .map (some (w.heap.size + 1 + i)) ∧ Keep (fun _ => False) w3 wx)
      case first =>
        refine wp_region_noPanic ?_
        have e1 : (0 : Int) ≤ (i : Int) := Int.natCast_nonneg i
        have e2 : (i : Int) < (nl : Int) := Int.ofNat_lt.2 hin
        go_region
        all_goals refine NoPanic.normal ?_
        all_goals (go_wp2_with fail)
        all_goals go_meet
        all_goals exact ⟨rfl, (Keep.refl _ w3).drew⟩
      case rest =>
        obtain ⟨rfl, hk4⟩ := hcut
        clear g0 g1 c4 c6 hlk cab d0 d1
        rename World => w4
        have HA4 := Lib.hid ((HADJ3.out.get HIN.out).keep hk4 (fun h => h))
        have HAC := Lib.hid (show AdjCol G.adj (cget C) v (KS i) from fun x => HDONE.out.fin HCOL2.out.nodup rfl HIV.out x)
        have HCOL4 := Lib.hid (HCOL3.out.keepF hk4)
        have HUN4 := Lib.hid (HUN.out.keep hk4 (fun h => h))
        have HSAT4 := Lib.hid (HSAT3.out.keepF hk4)
        have hbox4 := hk4.get HBOX3.out (fun h => h)
        have HW4 := Lib.hid (HW3.out.trans hk4 (fun _ _ h => h.elim))
        have HND := Lib.hid HCOL2.out.nodup
        have hcb4 := HCOL4.out.lt
        have hub4 := HUN4.out.lt
        have hsz4 : w.heap.size + 1 + i < w4.heap.size := HA4.out.lt
        obtain ⟨g0, g1⟩ := boxCells (((Keep.refl (fun _ => False) w4).alloc (.map #[] 0)).get hbox4 (fun h => h))
        have HBOX4 := Lib.hid hbox4
        have hmm := @run_makeMap Tryz.prog
        clear hbox4 HADJ3 HCOL3 HUN HSAT3 HBOX3 HADJ2 HCOL2 HSAT2 HBOX2 hk4 HCOLOR
        generalize hka : KS i = ka at *
        generalize w.heap.size + 1 + i = am at *
        go_wp2_with (first
          | (at_range; refine wpList_range_kv rfl _ _ rfl 2 3 Tryz.underlying83 cb _ rfl (HCOL4.out.keepF ((Keep.refl (fun _ => False) w4).alloc (.map #[] 0))) ?_; intro w6 hr hk hs; have HR := Lib.hid hr; have HF := Lib.hid ((SetAt.made w4).keep hk (fun h => h)); have HK6 := Lib.hid (Keep.trans ((Keep.refl (fun _ => False) w4).alloc (.map #[] 0)) hk (fun _ _ h => h)); clear hr hk hs; go_frame))
        simp only [World.size_alloc] at *
        clear g0 g1
        go_loopg [] (C.length + 1) (fun gk wr => ∃ R F, R.length + 1 = gk ∧ Rng wr (w4.heap.size + 1) cb (ckv C) (ckv R) ∧ R.Sublist C ∧ SetAt wr w4.heap.size F ∧ FeaR C R ka F ∧ Keep (fun _ => False) w4 wr)
        case atStart => exact ⟨C, [], rfl, HR.out, List.Sublist.refl _, HF.out, FeaR.start HND.out, HK6.out⟩
        case round =>
          obtain ⟨R, F, hgk, hr, hsub, hf, hfr, hk⟩ := hrel
          clear HR HF HK6
          have HR := Lib.hid hr
          have HF := Lib.hid hf
          have HFR := Lib.hid hfr
          have HK := Lib.hid hk
          have HGK := Lib.hid hgk
          have HSUB := Lib.hid hsub
          have hsr := hr.lt
          clear hr hsub hf hfr hk hgk
          go_wp2_with (first
            | (at_next; refine wpList_next_ent rfl _ rfl (w4.heap.size + 1) cb _ _ rfl HR.out ?_ ?_; rotate_left; intro kk x w7 hmem hr2 hk2 hs2 hent; obtain ⟨c, hc, rfl⟩ := mem_ckv hmem; rw [kdel_ckv] at hr2; have HR2 := Lib.hid hr2; have HK2 := Lib.hid (HK.out.trans hk2 (fun b hb h => by omega)); have HF2 := Lib.hid (HF.out.keep hk2 (by omega)); have HC := Lib.hid hc; clear hmem hr2 hk2 hs2 hc; rotate_left; intro hnil; have HNIL := Lib.hid hnil; clear hnil)
            | (((with_reducible refine (HasI_spec (HA4.out.keep HK2.out (fun h => h)) (c : Int)).mono ?_); rintro e w8 ⟨rfl, hk8⟩); have HR8 := Lib.hid (HR2.out.keep hk8 (fun h => h) (fun h => h)); have HF8 := Lib.hid (HF2.out.keep hk8 (fun h => h)); have HK8 := Lib.hid (HK2.out.trans hk8 (fun _ _ h => h)); clear hk8)
            | (((with_reducible refine (AddI_spec HF8.out (c : Int)).mono ?_); rintro e w9 ⟨rfl, hf9, hk9, hs9⟩); have HF9 := Lib.hid hf9; have HR9 := Lib.hid (HR8.out.keep hk9 (by omega) (by omega)); have HK9 := Lib.hid (HK8.out.trans hk9 (fun b hb h => by omega)); clear hf9 hk9 hs9))
          · have hR : R = [] := by have := HNIL.out; simpa [ckv] using this
            subst hR
            clear HNIL HR HSUB HGK
            have hsm := HH.out.small
            have hkk : k ≤ kub := by rcases HH.out.kle with h | h; omega; exact h.1
            have hpart := HH.out.part
            have hsym := HH.out.u.sym
            have HUSED := Lib.hid (fun (i : Nat) (hi : i < k) => Fea.used HFR.out HND.out hpart hsym HAC.out hi)
            have HFRESH := Lib.hid (Fea.fresh HFR.out HND.out hpart hsym HAC.out)
            have HNEW := Lib.hid (fun (h : k < kub) => Fea.new HFR.out HND.out hpart hsym HAC.out h)
            have HOLD := Lib.hid (fun (h : kub ≤ k) => Fea.old HFR.out HND.out hpart hsym HAC.out h)
            have hsz3 : w4.heap.size < wr.heap.size := HF.out.lt
            clear hpart hsym HFR hsr
            generalize gk = go at *
            go_loopg [23, 24] (kub + 1) (fun gk a23 c wr => ∃ (i : Nat), a23 = .int .i64 0 ∧ c = .int .i64 (i : Int) ∧ i + gk = kub + 1 ∧ i ≤ k ∧ i ≤ kub ∧ SetAt wr w4.heap.size F ∧ Keep (fun _ => False) w4 wr)
            case atStart => exact ⟨0, rfl, rfl, by omega, by omega, by omega, HF.out, HK.out⟩
            case round =>
              obtain ⟨i3, rfl, rfl, hgk, hi1, hi2, hf, hk⟩ := hrel
              clear HF HK
              have HF := Lib.hid hf
              have HK := Lib.hid hk
              clear hf hk
              have hcases : i3 < k ∨ (i3 = k ∧ k < kub) ∨ (i3 = k ∧ k = kub) := by omega
              rcases hcases with h1 | h2 | h3
              · by_cases hiF : (i3 : Int) ∈ F
                · have HT := Lib.hid (HasI_true HF.out _ hiF)
                  clear hiF
                  go_wp2_with (first
                    | (((with_reducible refine (HT.out).mono ?_); rintro e w8 ⟨rfl, hk8⟩); have HF8 := Lib.hid (HF.out.keep hk8 (fun h => h)); have HK8 := Lib.hid (HK.out.trans hk8 (fun _ _ h => h)); clear hk8))
                  go_roundg (gk - 1)
                  case measure => omega
                  case rel => exact ⟨i3 + 1, rfl, by go_num, by omega, by omega, by omega, HF8.out, HK8.out⟩
                · have hiA : (i3 : Int) ∈ ka := by rcases HUSED.out i3 h1 with h | h; exact absurd h hiF; exact h
                  have HT := Lib.hid (HasI_false HF.out _ hiF)
                  have HT2 := Lib.hid (fun W (hk : Keep (fun _ => False) w4 W) => HasI_true (HA4.out.keep hk (fun h => h)) _ hiA)
                  clear hiF hiA
                  go_wp2_with (first
                    | (((with_reducible refine (HT.out).mono ?_); rintro e w8 ⟨rfl, hk8⟩); have HF8 := Lib.hid (HF.out.keep hk8 (fun h => h)); have HK8 := Lib.hid (HK.out.trans hk8 (fun _ _ h => h)); clear hk8)
                    | (((with_reducible refine (HT2.out _ HK8.out).mono ?_); rintro e w9 ⟨rfl, hk9⟩); have HF9 := Lib.hid (HF8.out.keep hk9 (fun h => h)); have HK9 := Lib.hid (HK8.out.trans hk9 (fun _ _ h => h)); clear hk9))
                  go_roundg (gk - 1)
                  case measure => omega
                  case rel => exact ⟨i3 + 1, rfl, by go_num, by omega, by omega, by omega, HF9.out, HK9.out⟩
              have e3 := h2.1.symm
              have hlt := h2.2
              subst e3
              have HT := Lib.hid (HasI_false HF.out _ HFRESH.out.1)
              have HT2 := Lib.hid (fun W (hk : Keep (fun _ => False) w4 W) => HasI_false (HA4.out.keep hk (fun h => h)) _ HFRESH.out.2)
              go_upto_region 32 with (first
                | (((with_reducible refine (HT.out).mono ?_); rintro e w8 ⟨rfl, hk8⟩); have HF8 := Lib.hid (HF.out.keep hk8 (fun h => h)); have HK8 := Lib.hid (HK.out.trans hk8 (fun _ _ h => h)); clear hk8)
                | (((with_reducible refine (HT2.out _ HK8.out).mono ?_); rintro e w9 ⟨rfl, hk9⟩); have HF9 := Lib.hid (HF8.out.keep hk9 (fun h => h)); have HK9 := Lib.hid (HK8.out.trans hk9 (fun _ _ h => h)); clear hk9)
                | (((with_reducible refine (AddI_spec HF9.out _).mono ?_); rintro e wx ⟨rfl, hf10, hk10, hs10⟩); have HFX := Lib.hid hf10; have HKX := Lib.hid (HK9.out.trans hk10 (fun b hb h => by omega)); clear hf10 hk10 hs10))
              have HFEA := Lib.hid (HNEW.out hlt)
              have hnc := hlt
              generalize hff : sadd F (k : Int) = FF at *
              clear HF HK HT HT2 HF8 HK8 HF9 HK9 hff h2 hgk hi1 hi2 hlt hsz3
              rotate_left
              have e3 := h3.1.symm
              have hlt : kub ≤ k := by omega
              subst e3
              obtain ⟨wx, rfl⟩ : ∃ W, W = wr := ⟨_, rfl⟩
              go_upto_region 32 with fail
              have HFX := HF
              have HKX := HK
              have HFEA := Lib.hid (HOLD.out hlt)
              generalize hff : F = FF at *
              have hnc := hlt
              clear HF HK h3 hgk hi1 hi2 hff hlt hsz3
              all_goals
                clear HUSED HFRESH HNEW HOLD HA4 HAC
                have HCOLX := Lib.hid (HCOL4.out.keepF HKX.out)
                have HUNX := Lib.hid (HUN4.out.keep HKX.out (fun h => h))
                have HSATX := Lib.hid (HSAT4.out.keepF HKX.out)
                have HBOXX := Lib.hid (HKX.out.get HBOX4.out (fun h => h))
                have HWX := Lib.hid (HW4.out.trans HKX.out (fun _ _ h => h.elim))
                have HBEST := Lib.hid (HH.out.best.keep HWX.out)
                have hfl : w4.heap.size < wx.heap.size := HFX.out.lt
                have hszw4 : w.heap.size < w4.heap.size := lt_of_get HBOX4.out
                generalize w4.heap.size = fb at *
                clear HCOL4 HUN4 HSAT4 HBOX4 HW4 HKX
                go_wp2_with (first
                  | (at_range; refine wpList_range_kv rfl _ _ rfl 3 200 Tryz.underlying191 fb _ rfl HFX.out ?_; intro w10 hr hk hs; have HR := Lib.hid hr; have HK10 := Lib.hid hk; clear hr hk hs; go_frame))
                have l1 := HCOLX.out.lt
                have l2 := HUNX.out.lt
                have l3 := HSATX.out.sb_lt
                have l4 := HSATX.out.ab_lt
                generalize hrb : wx.heap.size = rb at *
                clear hrb
                have HE := Lib.hid (show ∃ (R : List Int) (C1 : PC) (U1 : List Int) (r : Nat), R.length + 1 = FF.length + 1 ∧ r = kub ∧ Rng w10 rb fb (FF.map fun k => (k, Value.agg #[])) (R.map fun k => (k, Value.agg #[])) ∧ R.Sublist FF ∧ ColAt w10 cb C1 ∧ (∀ u, u ≠ v → cget C1 u = cget C u) ∧ (R = FF ∨ ∃ x, cget C1 v = some x) ∧ SetAt w10 ub U1 ∧ (∀ x, x ∈ U1 ↔ x ∈ U ∧ x ≠ v) ∧ BestOk w10 G s cb ub bv ∧ (∀ c : Nat, (c : Int) ∈ FF → (c : Int) ∉ R → ∀ m, Ext G.ids G.adj (upd (cget C) v c) m → r ≤ m) ∧ (∃ cnt curr heur cv wk, Sat w10 s pb cnt curr heur cv wk) ∧ w10.heap[w.heap.size]? = some (.cells #[.map (some cb), .map (some ub)] 145 (0, 0)) ∧ Keep (fun b => b = s.sb ∨ b = s.ab ∨ b = cb ∨ b = ub) w w10 from
                  ⟨FF, C, _, kub, rfl, rfl, HR.out, List.Sublist.refl _, HCOLX.out.keepF HK10.out, fun _ _ => rfl, .inl rfl, HUNX.out.keep HK10.out (fun h => h), fun x => mem_sdel, HBEST.out.keep (HK10.out.mono (fun _ _ h => h.elim)), fun c h1 h2 => absurd h1 h2, ⟨_, _, _, _, _, HSATX.out.keepF HK10.out⟩, HK10.out.get HBOXX.out (fun h => h), HWX.out.trans HK10.out (fun _ _ h => h.elim)⟩)
                have HFNE := Lib.hid (HFEA.out.ne HH.out.part HH.out.u.irr ((HH.out.mem v).1 HUV.out).1 HCV.out HH.out.kle)
                clear HCOLX HUNX HSATX HBOXX HWX HBEST HK10 HR HFX
                generalize gk = go3 at *
                go_loopg [4, 5, 14] (FF.length + 1) (fun gk a4 a5 a14 wr => ∃ (R : List Int) (C1 : PC) (U1 : List Int) (r : Nat) (rv : Value), a4 = .int .i64 (r : Int) ∧ a5 = rv ∧ a14 = .nilIface ∧ R.length + 1 = gk ∧ Rng wr rb fb (FF.map fun k => (k, Value.agg #[])) (R.map fun k => (k, Value.agg #[])) ∧ R.Sublist FF ∧ ColAt wr cb C1 ∧ (∀ u, u ≠ v → cget C1 u = cget C u) ∧ (R = FF ∨ ∃ x, cget C1 v = some x) ∧ SetAt wr ub U1 ∧ (∀ x, x ∈ U1 ↔ x ∈ U ∧ x ≠ v) ∧ r ≤ kub ∧ BestOk wr G s cb ub rv ∧ ((r = kub ∧ rv = bv) ∨ (Colorable G.ids G.adj r ∧ rv ≠ .map none)) ∧ (∀ c : Nat, (c : Int) ∈ FF → (c : Int) ∉ R → ∀ m, Ext G.ids G.adj (upd (cget C) v c) m → r ≤ m) ∧ (∃ cnt curr heur cv wk, Sat wr s pb cnt curr heur cv wk) ∧ wr.heap[w.heap.size]? = some (.cells #[.map (some cb), .map (some ub)] 145 (0, 0)) ∧ Keep (fun b => b = s.sb ∨ b = s.ab ∨ b = cb ∨ b = ub) w wr)
                case atStart =>
                  obtain ⟨R, C1, U1, r, h1, rfl, h3, h4, h5, h6, h7, h8, h9, h11, h13, h14, h15, h16⟩ := HE.out
                  exact ⟨R, C1, U1, r, bv, rfl, rfl, rfl, h1, h3, h4, h5, h6, h7, h8, h9, Nat.le_refl _, h11, .inl ⟨rfl, rfl⟩, h13, h14, h15, h16⟩
                case round =>
                  clear HE
                  obtain ⟨R, C1, U1, r, rv, rfl, rfl, rfl, hgk, hr, hsub, hc1, hc1o, hc1v, hu1, hu1m, hrk, hbest, hres, hlow, hsat, hbox, hk⟩ := hrel
                  have HR := Lib.hid hr
                  have HSUB := Lib.hid hsub
                  have HC1 := Lib.hid hc1
                  have HC1O := Lib.hid hc1o
                  have HC1V := Lib.hid hc1v
                  have HU1 := Lib.hid hu1
                  have HU1M := Lib.hid hu1m
                  have HBEST := Lib.hid hbest
                  have HRES := Lib.hid hres
                  have HLOW := Lib.hid hlow
                  have HSAT := Lib.hid hsat
                  have HBOX := Lib.hid hbox
                  have HK := Lib.hid hk
                  clear hr hsub hc1 hc1o hc1v hu1 hu1m hbest hres hlow hsat hbox hk
                  go_upto_region 40 with (first
                    | (at_next; refine wpList_next_ent rfl _ rfl rb fb _ _ rfl HR.out ?_ ?_; rotate_left; intro kk x w7 hmem hr2 hk2 hs2 hent; obtain ⟨kk', hkR, e⟩ := List.mem_map.1 hmem; cases e; obtain ⟨c, rfl, -⟩ := (HFEA.out kk).1 (HSUB.out.mem hkR); rw [kdel_set] at hr2; have hbox7 := hk2.get HBOX.out (by omega); obtain ⟨g0, g1⟩ := boxCells hbox7; have HR2 := Lib.hid hr2; have HKR := Lib.hid hkR; have HC7 := Lib.hid (HC1.out.keep hk2 (by omega)); have HU7 := Lib.hid (HU1.out.keep hk2 (show ¬ ub = rb by omega)); have HB7 := Lib.hid (HBEST.out.next HR.out hk2); have HS7 := Lib.hid (by obtain ⟨a1, a2, a3, a4, a5, a6⟩ := HSAT.out; exact ⟨a1, a2, a3, a4, a5, a6.next HR.out hk2 HNE.out⟩ : ∃ cnt curr heur cv wk, Sat w7 s pb cnt curr heur cv wk); have HK7 := Lib.hid (HK.out.trans hk2 (fun b hb h => by omega)); have HBOX7 := Lib.hid hbox7; clear hmem hr2 hk2 hs2 hkR hbox7; rotate_left; intro hnil; have HNIL := Lib.hid hnil; clear hnil)
                    | (at_mapUpdate; refine wpList_update_kv rfl _ _ _ _ rfl 2 3 Tryz.underlying83 Tryz.underlying2 cb _ v (.int .i64 (c : Int)) rfl rfl rfl HC7.out ?_; intro w8 h1 h2 h3; rw [kput_ckv] at h1; have hbox8 := h2.get HBOX7.out (by omega); obtain ⟨g2, g3⟩ := boxCells hbox8; have HC8 := Lib.hid h1; have HR8 := Lib.hid (HR2.out.keep h2 (by omega) (by omega)); have HU8 := Lib.hid (HU7.out.keep h2 (show ¬ ub = cb by omega)); have HB8 := Lib.hid (HB7.out.keep (h2.mono (fun b _ h => .inr (.inr (.inl h))))); have HS8 := Lib.hid (by obtain ⟨a1, a2, a3, a4, a5, a6⟩ := HS7.out; obtain ⟨b1, b2, b3, b4⟩ := a6.mapNe HC7.out HNE.out; exact ⟨a1, a2, a3, a4, a5, a6.keep h2 (by omega) (by omega) (by omega) (by omega) (by omega)⟩ : ∃ cnt curr heur cv wk, Sat w8 s pb cnt curr heur cv wk); have HK8 := Lib.hid (HK7.out.trans h2 (fun b _ h => .inr (.inr (.inl h)))); have HBOX8 := Lib.hid hbox8; clear h1 h2 h3 g0 g1 hbox8))
                  all_goals first
                    | (refine leaves_cons (f := 111) (args := #[.agg #[.map (some cb), .map (some ub)], .int .i64 v]) (by simp) (by simp [go_sem]) ?_
                       have hR : R = [] := by have := HNIL.out; simpa using this
                       obtain ⟨x, hx⟩ : ∃ x, cget C1 v = some x := by
                         rcases HC1V.out with h | h
                         · exact absurd (h.symm.trans hR) HFNE.out
                         · exact h
                       refine (uncolor_spec HC1.out HU1.out HH.out.ne hx .returning).mono ?_
                       rintro e u' w' ⟨rfl, rfl, hc, hu, hk2⟩
                       subst hR
                       refine ⟨_, (by simp [results, Tryz.results58, go_sem]; rfl), ?_⟩
                       exact dsx_end HH.out HFEA.out HUV.out hrk HBEST.out HRES.out HLOW.out HC1.out HU1.out HC1O.out HU1M.out HSAT.out HK.out hc hu hk2)
                    | (have hcF := HSUB.out.mem HKR.out
                       have hq : ((c : Int) == (k : Int)) = true ∨ ((c : Int) == (k : Int)) = false := by cases ((c : Int) == (k : Int)) <;> simp
                       have hsk : (c < k → r ≤ k) ∧ (c = k → r ≤ k + 1) := by
                         first
                           | (have hq : ((c : Int) == (k : Int)) = true := by assumption
                              simp only [beq_iff_eq] at hq
                              constructor <;> (intro _; omega))
                           | (have hq : ((c : Int) == (k : Int)) = false := by assumption
                              simp only [beq_eq_false_iff_ne, ne_eq] at hq
                              constructor <;> (intro _; omega))
                           | (constructor <;> (intro _; omega))
                       go_roundg ((sdel R (c : Int)).length + 1)
                       case measure => have := sdel_length HKR.out; omega
                       case rel => exact ⟨sdel R (c : Int), _, U1, r, _, rfl, rfl, rfl, rfl, HR8.out, (List.filter_sublist).trans HSUB.out, HC8.out, fun u hu => by rw [cget_cput, if_neg hu]; exact HC1O.out u hu, .inr ⟨c, by rw [cget_cput, if_pos rfl]⟩, HU8.out, HU1M.out, hrk, HB8.out, HRES.out, dsx_low HLOW.out (Nat.le_refl r) (fun m hx => dsx_skip HFEA.out HH.out.part HH.out.u.irr HH.out.u.sym ((HH.out.mem v).1 HUV.out).1 HCV.out hcF hsk.1 hsk.2 m hx), HS8.out, HBOX8.out, HK8.out⟩)
                    | (have hcF := HSUB.out.mem HKR.out
                       have hrec : ∀ (kk : Nat), Part G.ids G.adj (upd (cget C) v c) kk → kk < r → Calls Tryz.prog 58 #[.nilIface, s.ptr, candV cb ub, .int .i64 (kk : Int), .int .i64 (r : Int), _] _ _ := fun kk hp hkk => HIH.out B _ G s pb cb ub _ U1 kk r _ (by have := less_one HU1.out.nodup HU1M.out HUV.out; omega) (dsx_pre HH.out HUV.out hp hkk hrk HB8.out HC8.out HU8.out HC1O.out HU1M.out HS8.out HK8.out)
                       unfold SG.ptr at hrec
                       have hpart := HFEA.out.part HH.out.part HH.out.u.irr HH.out.u.sym ((HH.out.mem v).1 HUV.out).1 HCV.out hcF
                       have HREC := Lib.hid hrec
                       have HPART := Lib.hid hpart
                       clear hrec hpart hcF
                       skip)
                  all_goals
                    have hcF := HSUB.out.mem HKR.out
                    first
                      | (have hq : ((c : Int) == (k : Int)) = true := by assumption
                         simp only [beq_iff_eq] at hq
                         have hcall := HREC.out (k + 1) (by rcases HPART.out with ⟨h, _⟩ | ⟨_, _, h⟩; exact absurd hq (by omega); exact h) (by omega)
                         rw [show ((k + 1 : Nat) : Int) = (k : Int) + 1 by omega] at hcall
                         have HCALL := Lib.hid hcall
                         clear hcall hq)
                      | (have hq : ((c : Int) == (k : Int)) = false := by assumption
                         simp only [beq_eq_false_iff_ne, ne_eq] at hq
                         have hcall := HREC.out k (by rcases HPART.out with ⟨_, h⟩ | ⟨h, _⟩; exact h; exact absurd h (by omega)) (by omega)
                         have HCALL := Lib.hid hcall
                         clear hcall hq)
                    go_wp2_with (first
                      | (((with_reducible refine (HCALL.out).mono ?_); rintro e w9 ⟨r2, rv2, C2, U2, rfl, hr2, hb2, hres2, hlow2, hc2, hc2e, hu2, hu2m, hsat2, hk2⟩); have HB9 := Lib.hid hb2; have HRES9 := Lib.hid hres2; have HLOW9 := Lib.hid hlow2; have HC9 := Lib.hid hc2; have HC9E := Lib.hid hc2e; have HU9 := Lib.hid hu2; have HU9M := Lib.hid hu2m; have HS9 := Lib.hid hsat2; have HK9 := Lib.hid hk2; clear hb2 hres2 hlow2 hc2 hc2e hu2 hu2m hsat2 hk2))
                    have hup := upd_of HC1O.out c
                    have hres9 : (r2 = kub ∧ rv2 = bv) ∨ (Colorable G.ids G.adj r2 ∧ rv2 ≠ .map none) := by
                      rcases HRES9.out with ⟨e1, e2⟩ | h
                      · rcases HRES.out with ⟨e3, e4⟩ | h
                        · exact .inl ⟨e1.trans e3, e2.trans e4⟩
                        · exact .inr ⟨by rw [e1]; exact h.1, by rw [e2]; exact h.2⟩
                      · exact .inr h
                    have HRES10 := Lib.hid hres9
                    clear hres9
                    go_roundg ((sdel R (c : Int)).length + 1)
                    case measure => have := sdel_length HKR.out; omega
                    case rel => exact ⟨sdel R (c : Int), C2, U2, r2, _, rfl, rfl, rfl, rfl, HR8.out.keep HK9.out (by omega) (by omega), (List.filter_sublist).trans HSUB.out, HC9.out, fun u hu => by rw [HC9E.out, cget_cput, if_neg hu]; exact HC1O.out u hu, .inr ⟨c, by rw [HC9E.out, cget_cput, if_pos rfl]⟩, HU9.out, fun x => (HU9M.out x).trans (HU1M.out x), by omega, HB9.out, HRES10.out, dsx_low HLOW.out hr2 (fun m hx => HLOW9.out m (by rw [hup]; exact hx)), HS9.out, HK9.out.get HBOX8.out (by omega), HK8.out.trans HK9.out (fun _ _ h => h)⟩
          · have hin : (c : Int) ∈ ka := by assumption
            go_roundg ((cdel R kk).length + 1)
            case measure => have := HGK.out; have := cdel_length HC.out; omega
            case rel => exact ⟨cdel R kk, F, rfl, HR8.out, (List.filter_sublist).trans HSUB.out, HF8.out, HFR.out.skip HND.out HSUB.out HC.out hin, HK8.out⟩
          · have hin : ¬ (c : Int) ∈ ka := by assumption
            go_roundg ((cdel R kk).length + 1)
            case measure => have := HGK.out; have := cdel_length HC.out; omega
            case rel => exact ⟨cdel R kk, _, rfl, HR9.out, (List.filter_sublist).trans HSUB.out, HF9.out, HFR.out.add HND.out HSUB.out HC.out hin, HK9.out⟩
theorem dsx_all : ∀ n, DsxAll n
  | 0 => fun _ _ _ _ _ _ _ _ _ _ _ _ h _ => absurd h (Nat.not_lt_zero _)
  | n + 1 => fun _ _ _ _ _ _ _ _ _ _ _ _ h H => dsx_step n (dsx_all n) h H
theorem dsx_spec {B : Nat} {w : World} {G : PG} {s : SG} {pb cb ub : Nat} {C : PC} {U : List Int} {k kub : Nat} {bv : Value} (H : DsxPre B w G s pb cb ub C U k kub bv) :
    Calls Tryz.prog 58 #[.nilIface, s.ptr, candV cb ub, .int .i64 (k : Int), .int .i64 (kub : Int), bv] w (DsxPost w G s pb cb ub C U kub bv) := dsx_all (U.length + 1) _ _ _ _ _ _ _ _ _ _ _ _ (Nat.lt_succ_self _) H
end Go.Proofs.YtdaccgelmcmfjaaGreatDoor
