/- coloring.bestMaximumClique: the colouring of some clique. -/
import Derived.Test.YtdaccgelmcmfjaaGreatDoorJQ1
import Derived.Test.YtdaccgelmcmfjaaGreatDoorJN8
import Derived.Test.YtdaccgelmcmfjaaGreatDoorJV0
import Derived.Test.YtdaccgelmcmfjaaGreatDoorJG0
import Derived.Test.YtdaccgelmcmfjaaGreatDoorJQ10
set_option linter.all false
section
namespace Go.Proofs.YtdaccgelmcmfjaaGreatDoor
open Go.RowKit Go.V Go.Sort
def BestPost (w : World) (g : Nat) (G : PG) (e : Ending) (w' : World) : Prop :=
  ∃ (m : Nat) (l : List Int), e = .returned (.map (some m)) ∧ w.heap.size ≤ m ∧ ColAt w' m l.zipIdx ∧ Clique G l ∧ l ≠ [] ∧ Keep (fun b => b = g) w w'
set_option maxHeartbeats 8000000 in
set_option maxRecDepth 20000 in
theorem bestMaximumClique_spec {B B' pb : Nat} {w : World} {G : PG} {v : Value} {cs : List CE} (hG : Plain B w pb G) (hU : UG G) (h : Cl w B' G v cs) (hB : B ≤ B') :
    Calls Tryz.prog 57 #[gV pb, v] w fun e w' => ∃ g, v.ownBlock = some g ∧ BestPost w g G e w' := by
  obtain ⟨g, cap, rfl, hg, hgl, hcc, hcm, hfr, hcell⟩ := owns_cell h.own (by have := h.ne; simpa using this)
  have hob : (Value.slice (some ⟨g, 0, none⟩) cs.length cap).ownBlock = some g := rfl
  have hcol : ∀ c ∈ cs, ∀ W, Keep (fun b => b = g) w W → Calls Tryz.prog 52 #[c.v] W fun e w' => ∃ m, e = .returned (.map (some m)) ∧ W.heap.size ≤ m ∧ ColAt w' m c.l.zipIdx ∧ Keep (fun _ => False) W w' := fun c hc W hk => by
    obtain ⟨h1, h2, h3, h4⟩ := h.each c hc
    exact colorClique_spec (h1.keep hk (fun e => h4 (by rw [hob, e]))).row h2.nodup (Nat.le_trans (h2.length hU) (Nat.le_trans hU.ok.small (by decide)))
  have hdeg : ∀ c ∈ cs, ∀ W, Keep (fun b => b = g) w W → Calls Tryz.prog 107 #[gV pb, c.v] W fun e w' => ∃ d : Int, e = .returned (.int .i64 d) ∧ Keep (fun _ => False) W w' := fun c hc W hk => by
    obtain ⟨h1, h2, h3, h4⟩ := h.each c hc
    exact cliqueDegree_spec (hG.keep hk (fun b hb => by rw [hb]; omega)) (h1.keep hk (fun e => h4 (by rw [hob, e]))).row h2.mem (Nat.le_trans (h2.length hU) (Nat.le_trans hU.ok.small (by decide)))
  have hval : ∀ c ∈ cs, ∃ off cap, c.v = .slice (some ⟨c.b, off, none⟩) c.l.length cap := fun c hc => by
    obtain ⟨⟨off, cap, e, _⟩, _⟩ := h.each c hc
    exact ⟨off, cap, e⟩
  have hcq : ∀ c ∈ cs, Clique G c.l ∧ c.l ≠ [] ∧ c.l.length ≤ 1000 := fun c hc => by
    obtain ⟨⟨off, cap, e, _, hne, _⟩, h2, _⟩ := h.each c hc
    exact ⟨h2, hne, Nat.le_trans (h2.length hU) (Nat.le_trans hU.ok.small (by decide))⟩
  have hsort := sortCl_spec hU h
  have hlen := h.len
  have hpos : 0 < cs.length := List.length_pos_iff.2 h.ne
  obtain ⟨c00, hc00⟩ : ∃ c, cs[0]? = some c := ⟨_, List.getElem?_eq_getElem hpos⟩
  have c0 := hcell 0 c00.v (by rw [List.getElem?_map, hc00]; rfl)
  have hm00 := List.mem_of_getElem? hc00
  have HCOL := Lib.hid hcol
  have HDEG := Lib.hid hdeg
  have HVAL := Lib.hid hval
  have HCQ := Lib.hid hcq
  have HSORT := Lib.hid hsort
  have HM00 := Lib.hid hm00
  refine Calls.mono (R := BestPost w g G) ?_ (fun e w' h => ⟨g, hob, h⟩)
  generalize hnn : cs.length = n at *
  clear hcol hdeg hval hcq hsort hm00 hc00 hcell h hob hU hfr hB hnn
  go_enter Tryz.func57, Tryz.ntmps57
  by_cases h1 : n = 1
  · subst h1
    go_wp2_with (first
      | (((with_reducible refine (HCOL.out c00 HM00.out w (Keep.refl _ _)).mono ?_); rintro e w1 ⟨m, rfl, hm, hc, hk⟩); have HC := Lib.hid hc; have HK := Lib.hid hk; clear hc hk))
    go_ret
    exact ⟨m, c00.l, rfl, hm, HC.out, (HCQ.out c00 HM00.out).1, (HCQ.out c00 HM00.out).2.1, HK.out.mono (fun _ _ h => h.elim)⟩
  · clear c0
    go_wp2_with (first
      | (((with_reducible refine (HSORT.out).mono ?_); rintro e w1 ⟨rfl, hcell, hk⟩); obtain ⟨c0, hm0, c0c⟩ := hcell 0 (by omega); have HCELL := Lib.hid hcell; have HM0 := Lib.hid hm0; have HK := Lib.hid hk; clear hcell hm0 hk)
      | (((with_reducible refine (HDEG.out c0 HM0.out _ HK.out).mono ?_); rintro e w2 ⟨d, rfl, hk⟩); have HK2 := Lib.hid (HK.out.trans hk (fun _ _ h => h.elim)); have HCELL2 := Lib.hid (fun j hj => (by obtain ⟨c, h1, h2⟩ := HCELL.out j hj; exact ⟨c, h1, by rw [hk.cell (World.block_lt_of_cell? _ _ h2) (fun h => h)]; exact h2⟩ : ∃ c ∈ cs, w2.cell? ⟨g, j, none⟩ = some c.v)); clear hk))
    clear HCELL HK HSORT HM00 c0c hG
    have HC0 := Lib.hid (⟨c0, HM0.out, rfl⟩ : ∃ c ∈ cs, c0.v = c.v)
    clear HM0
    generalize c0.v = v0 at *
    go_loopw [5, 6, 31] (fun mv md i wr => ∃ (k : Nat) (d : Int) (c : CE), i = .int .i64 (k : Int) ∧ md = .int .i64 d ∧ k ≤ n - 1 ∧ c ∈ cs ∧ mv = c.v ∧ Keep (fun b => b = g) w wr ∧ ∀ j, j < n → ∃ c ∈ cs, wr.cell? ⟨g, j, none⟩ = some c.v) (fun _ _ i _ => n - (intOf i).toNat)
    case atStart => obtain ⟨c, h1, h2⟩ := HC0.out; exact ⟨0, d, c, rfl, rfl, by omega, h1, h2, HK2.out, HCELL2.out⟩
    case round =>
      obtain ⟨k, d, c, rfl, rfl, hkn, hm, rfl, hk, hcell⟩ := hrel
      clear HK2 HCELL2 HC0
      have HM := Lib.hid hm
      have HK := Lib.hid hk
      have HCELL := Lib.hid hcell
      clear hm hk hcell
      obtain ⟨off, cap', hcv⟩ := HVAL.out c HM.out
      have HCV := Lib.hid hcv
      have hcl := (HCQ.out c HM.out).2.2
      have hcol := HCOL.out c HM.out wr HK.out
      rw [hcv] at hcol ⊢
      have HCOLC := Lib.hid hcol
      clear hcv hcol
      by_cases hlt : k < n - 1
      · obtain ⟨c2, hm2, cc2⟩ := HCELL.out (1 + k) (by omega)
        obtain ⟨off2, cap2, hcv2⟩ := HVAL.out c2 hm2
        have hcl2 := (HCQ.out c2 hm2).2.2
        have HM2 := Lib.hid hm2
        have HCV2 := Lib.hid hcv2
        have hdeg2 := HDEG.out c2 HM2.out wr HK.out
        rw [hcv2] at cc2 hdeg2
        have HDEG2 := Lib.hid hdeg2
        clear hdeg2 hm2 hcv2
        go_wp2_with (first
          | (((with_reducible refine (HDEG2.out).mono ?_); rintro e w2 ⟨d2, rfl, hk⟩); have HK2 := Lib.hid (HK.out.trans hk (fun _ _ h => h.elim)); have HCELL2 := Lib.hid (fun j hj => (by obtain ⟨c, h1, h2⟩ := HCELL.out j hj; exact ⟨c, h1, by rw [hk.cell (World.block_lt_of_cell? _ _ h2) (fun h => h)]; exact h2⟩ : ∃ c ∈ cs, w2.cell? ⟨g, j, none⟩ = some c.v)); clear hk)
          | (((with_reducible refine (HCOLC.out).mono ?_); rintro e w3 ⟨m, rfl, hm, hc, hk⟩); have HC := Lib.hid hc; have HK3 := Lib.hid hk; clear hc hk))
        · go_ret
          exact ⟨m, c.l, rfl, Nat.le_trans HK.out.size hm, HC.out, (HCQ.out c HM.out).1, (HCQ.out c HM.out).2.1, HK.out.trans HK3.out (fun _ _ h => h.elim)⟩
        all_goals go_roundw
        all_goals first
          | exact ⟨k + 1, _, c2, by go_num, rfl, by omega, HM2.out, HCV2.out.symm, HK2.out, HCELL2.out⟩
          | exact ⟨k + 1, _, c, by go_num, rfl, by omega, HM.out, HCV.out.symm, HK2.out, HCELL2.out⟩
          | (simp [intOf]; omega)
      · obtain rfl : k = n - 1 := by omega
        go_wp2_with (first
          | (((with_reducible refine (HCOLC.out).mono ?_); rintro e w3 ⟨m, rfl, hm, hc, hk⟩); have HC := Lib.hid hc; have HK3 := Lib.hid hk; clear hc hk))
        go_ret
        exact ⟨m, c.l, rfl, Nat.le_trans HK.out.size hm, HC.out, (HCQ.out c HM.out).1, (HCQ.out c HM.out).2.1, HK.out.trans HK3.out (fun _ _ h => h.elim)⟩
end Go.Proofs.YtdaccgelmcmfjaaGreatDoor
end
/- dSaturExact: plain laws on the colours that a node may take. -/
section
namespace Go.Proofs.YtdaccgelmcmfjaaGreatDoor
open Go.RowKit Go.V
def Fea (adj : Int → Int → Prop) (f : Int → Option Nat) (v : Int) (k ub : Nat) (F : List Int) : Prop :=
  ∀ x : Int, x ∈ F ↔ ∃ c : Nat, x = (c : Int) ∧ ((c < k ∧ ∀ u, f u = some c → ¬ adj v u) ∨ (c = k ∧ k < ub))
def FeaR (C R : PC) (ks F : List Int) : Prop := ∀ x : Int, x ∈ F ↔ ∃ (u : Int) (c : Nat), (u, c) ∈ C ∧ cget R u = none ∧ (c : Int) ∉ ks ∧ x = (c : Int)
def AdjCol (adj : Int → Int → Prop) (f : Int → Option Nat) (v : Int) (ks : List Int) : Prop := ∀ x : Int, x ∈ ks ↔ ∃ (u : Int) (c : Nat), f u = some c ∧ adj u v ∧ x = (c : Int)
theorem FeaR.start {C : PC} {ks : List Int} (hC : (C.map (·.1)).Nodup) : FeaR C C ks [] := fun x => by
  constructor
  · intro h; cases h
  · rintro ⟨u, c, h1, h2, _⟩; rw [(cget_mem hC).2 h1] at h2; cases h2
theorem FeaR.skip {C R : PC} {ks F : List Int} {u : Int} {c : Nat} (h : FeaR C R ks F) (hC : (C.map (·.1)).Nodup) (hs : R.Sublist C) (hk : (u, c) ∈ R) (hc : (c : Int) ∈ ks) : FeaR C (cdel R u) ks F := fun x => by
  rw [h x]
  constructor
  · rintro ⟨v, d, h1, h2, h3, h4⟩
    exact ⟨v, d, h1, by rw [cget_cdel, h2]; split <;> rfl, h3, h4⟩
  · rintro ⟨v, d, h1, h2, h3, h4⟩
    rw [cget_cdel] at h2
    split at h2
    · rename_i e; subst e
      have e1 := (cget_mem hC).2 h1
      have e2 := (cget_mem hC).2 (hs.mem hk)
      rw [e1] at e2; cases e2
      exact absurd hc h3
    · exact ⟨v, d, h1, h2, h3, h4⟩
theorem FeaR.add {C R : PC} {ks F : List Int} {u : Int} {c : Nat} (h : FeaR C R ks F) (hC : (C.map (·.1)).Nodup) (hs : R.Sublist C) (hk : (u, c) ∈ R) (hc : (c : Int) ∉ ks) : FeaR C (cdel R u) ks (sadd F (c : Int)) := fun x => by
  rw [mem_sadd, h x]
  constructor
  · rintro (⟨v, d, h1, h2, h3, h4⟩ | rfl)
    · exact ⟨v, d, h1, by rw [cget_cdel, h2]; split <;> rfl, h3, h4⟩
    · exact ⟨u, c, hs.mem hk, by rw [cget_cdel, if_pos rfl], hc, rfl⟩
  · rintro ⟨v, d, h1, h2, h3, h4⟩
    rw [cget_cdel] at h2
    split at h2
    · rename_i e; subst e
      have e1 := (cget_mem hC).2 h1
      have e2 := (cget_mem hC).2 (hs.mem hk)
      rw [e1] at e2; cases e2
      exact .inr h4
    · exact .inl ⟨v, d, h1, h2, h3, h4⟩
section
variable {ids : List Int} {adj : Int → Int → Prop} {C : PC} {k : Nat} {v : Int} {ks F : List Int}
theorem FeaR.fin (h : FeaR C [] ks F) (hC : (C.map (·.1)).Nodup) (hp : Part ids adj (cget C) k) (hs : ∀ a b, adj a b → adj b a) (ha : AdjCol adj (cget C) v ks) (x : Int) :
    x ∈ F ↔ ∃ c : Nat, x = (c : Int) ∧ (c < k ∧ ∀ u, cget C u = some c → ¬ adj v u) := by
  rw [h x]
  constructor
  · rintro ⟨u, c, h1, _, h3, h4⟩
    have hu := (cget_mem hC).2 h1
    exact ⟨c, h4, (hp.dom u c hu).2, fun w hw hadj => h3 ((ha _).2 ⟨w, c, hw, hs _ _ hadj, rfl⟩)⟩
  · rintro ⟨c, h4, h5, h6⟩
    obtain ⟨u, hu⟩ := hp.all c h5
    refine ⟨u, c, (cget_mem hC).1 hu, rfl, fun hk => ?_, h4⟩
    obtain ⟨w, d, h7, h8, h9⟩ := (ha _).1 hk
    have : c = d := by omega
    subst this
    exact h6 w h7 (hs _ _ h8)
theorem Fea.used (h : FeaR C [] ks F) (hC : (C.map (·.1)).Nodup) (hp : Part ids adj (cget C) k) (hs : ∀ a b, adj a b → adj b a) (ha : AdjCol adj (cget C) v ks) {i : Nat} (hi : i < k) : (i : Int) ∈ F ∨ (i : Int) ∈ ks := by
  by_cases hk : (i : Int) ∈ ks
  · exact .inr hk
  · refine .inl ((h.fin hC hp hs ha _).2 ⟨i, rfl, hi, fun u hu hadj => hk ((ha _).2 ⟨u, i, hu, hs _ _ hadj, rfl⟩)⟩)
theorem Fea.fresh (h : FeaR C [] ks F) (hC : (C.map (·.1)).Nodup) (hp : Part ids adj (cget C) k) (hs : ∀ a b, adj a b → adj b a) (ha : AdjCol adj (cget C) v ks) : (k : Int) ∉ F ∧ (k : Int) ∉ ks := by
  constructor
  · intro hk
    obtain ⟨c, h1, h2, _⟩ := (h.fin hC hp hs ha _).1 hk
    omega
  · intro hk
    obtain ⟨u, c, h1, _, h2⟩ := (ha _).1 hk
    have := (hp.dom u c h1).2
    omega
theorem Fea.new {ub : Nat} (h : FeaR C [] ks F) (hC : (C.map (·.1)).Nodup) (hp : Part ids adj (cget C) k) (hs : ∀ a b, adj a b → adj b a) (ha : AdjCol adj (cget C) v ks) (hk : k < ub) : Fea adj (cget C) v k ub (sadd F (k : Int)) := fun x => by
  rw [mem_sadd, h.fin hC hp hs ha]
  constructor
  · rintro (⟨c, h1, h2⟩ | h)
    · exact ⟨c, h1, .inl h2⟩
    · exact ⟨k, h, .inr ⟨rfl, hk⟩⟩
  · rintro ⟨c, h1, h2 | ⟨h2, _⟩⟩
    · exact .inl ⟨c, h1, h2⟩
    · exact .inr (by rw [h1, h2])
theorem Fea.old {ub : Nat} (h : FeaR C [] ks F) (hC : (C.map (·.1)).Nodup) (hp : Part ids adj (cget C) k) (hs : ∀ a b, adj a b → adj b a) (ha : AdjCol adj (cget C) v ks) (hk : ub ≤ k) : Fea adj (cget C) v k ub F := fun x => by
  rw [h.fin hC hp hs ha]
  constructor
  · rintro ⟨c, h1, h2⟩
    exact ⟨c, h1, .inl h2⟩
  · rintro ⟨c, h1, h2 | ⟨_, h2⟩⟩
    · exact ⟨c, h1, h2⟩
    · omega
end
section
variable {ids : List Int} {adj : Int → Int → Prop} {f : Int → Option Nat} {k ub : Nat} {v : Int} {F : List Int}
theorem Fea.ne (h : Fea adj f v k ub F) (hp : Part ids adj f k) (hirr : ∀ u, ¬ adj u u) (hv : v ∈ ids) (hfv : f v = none) (hk : k < ub ∨ (k ≤ ub ∧ Ext ids adj f ub)) : F ≠ [] := by
  intro he
  rcases hk with hk | ⟨hk, hx⟩
  · have := (h (k : Int)).2 ⟨k, rfl, .inr ⟨rfl, hk⟩⟩
    rw [he] at this; cases this
  · rcases hx.step hp hv hfv with ⟨x, h1, h2, _⟩ | hx2
    · have := (h (x : Int)).2 ⟨x, rfl, .inl ⟨h1, h2⟩⟩
      rw [he] at this; cases this
    · have h3 := Ext.le (hp.step_new hirr hv hfv) hx2
      have := (h (k : Int)).2 ⟨k, rfl, .inr ⟨rfl, by omega⟩⟩
      rw [he] at this; cases this
theorem Fea.part (h : Fea adj f v k ub F) (hp : Part ids adj f k) (hirr : ∀ u, ¬ adj u u) (hs : ∀ a b, adj a b → adj b a) (hv : v ∈ ids) (hfv : f v = none) {c : Nat} (hc : (c : Int) ∈ F) : (c < k ∧ Part ids adj (upd f v c) k) ∨ (c = k ∧ k < ub ∧ Part ids adj (upd f v c) (k + 1)) := by
  obtain ⟨d, h1, h2⟩ := (h _).1 hc
  have : c = d := by omega
  subst this
  rcases h2 with ⟨h2, h3⟩ | ⟨rfl, h2⟩
  · exact .inl ⟨h2, hp.step_old hirr hs hv hfv h2 h3⟩
  · exact .inr ⟨rfl, h2, hp.step_new hirr hv hfv⟩
theorem Fea.fin (h : Fea adj f v k ub F) (hp : Part ids adj f k) (hirr : ∀ u, ¬ adj u u) (hv : v ∈ ids) (hfv : f v = none) {ub' : Nat} (hu : ub' ≤ ub) (hk : k ≤ ub) (hall : ∀ c : Nat, (c : Int) ∈ F → ∀ m, Ext ids adj (upd f v c) m → ub' ≤ m) {m : Nat} (hx : Ext ids adj f m) : ub' ≤ m := by
  rcases hx.step hp hv hfv with ⟨x, h1, h2, h3⟩ | hx2
  · exact hall x ((h _).2 ⟨x, rfl, .inl ⟨h1, h2⟩⟩) m h3
  · by_cases hk2 : k < ub
    · exact hall k ((h _).2 ⟨k, rfl, .inr ⟨rfl, hk2⟩⟩) m hx2
    · have := Ext.le (hp.step_new hirr hv hfv) hx2
      omega
end
end Go.Proofs.YtdaccgelmcmfjaaGreatDoor
end
