/- (*bronKerbosch).maximalCliquePivot: the walk. -/
import Derived.Test.YtdaccgelmcmfjaaGreatDoorJN3
set_option linter.all false
namespace Go.Proofs.YtdaccgelmcmfjaaGreatDoor
open Go.RowKit Go.V
theorem pow_half {a b : Nat} (h : a < b) : 2 ^ a + 2 ^ a ≤ 2 ^ b := by
  have : 2 ^ (a + 1) ≤ 2 ^ b := Nat.pow_le_pow_right (by omega) h
  rw [Nat.pow_succ] at this; omega
theorem CRow.cell {w : World} {b off n cap : Nat} {l : List Int} (h : CRow w (.slice (some ⟨b, off, none⟩) n cap) b l) {k : Nat} {y : Int} (hk : l[k]? = some y) : w.cell? ⟨b, off + k, none⟩ = some (nodeV y) := by
  obtain ⟨off', cap', he, hc, _⟩ := h
  cases he
  exact hc k _ (by rw [List.getElem?_map, hk]; rfl)
theorem CRow.of_owns {w : World} {B n : Nat} {v : Value} {l : List Int} (h : w.ownsRow B 66 1 v n (l.map nodeV)) (hn : n = l.length) (hl : l ≠ []) : ∃ g cap, v = .slice (some ⟨g, 0, none⟩) n cap ∧ B ≤ g ∧ CRow w v g l := by
  rcases h.2 with ⟨_, h0⟩ | ⟨g, cap, cur, hv, hb, hh, h1, h2, h3, h4⟩
  · subst hn; exact absurd (List.length_eq_zero_iff.1 h0) hl
  · rw [Nat.mul_one] at h4
    refine ⟨g, cap, hv, hb, 0, cap, by rw [hv, hn], fun j u hu => ?_, hl, by omega, h2⟩
    rw [Nat.zero_add, cell_of hh]
    rw [← h4, List.getElem?_take] at hu
    split at hu
    · simpa using hu
    · cases hu
structure Nbrs (G : PG) (u : Int) (l : List Int) : Prop where
  nd : l.Nodup
  mem : ∀ y, y ∈ l ↔ G.adj u y
  len : l.length ≤ 1000
theorem Nbrs.of {G : PG} (h : G.Ok) {i : Nat} {u : Int} (hi : G.ids[i]? = some u) : Nbrs G u (G.nbr i) :=
  ⟨PG.nbr_nodup h hi, PG.mem_nbr h hi, Nat.le_trans (PG.nbr_length h hi) h.small⟩
theorem pivot_use {B : Nat} {w : World} {pb pm xm : Nat} {G : PG} {P X : List Int} (hO : G.Ok) (kv : Value) (hG : Plain B w pb G) (hp : NSet w pm P) (hx : NSet w xm X) (hP : ∀ u ∈ P, u ∈ G.ids) (hX : ∀ u ∈ X, u ∈ G.ids) (hne : P ≠ [] ∨ X ≠ []) :
    Calls Tryz.prog 175 #[kv, gV pb, .map (some pm), .map (some xm)] w fun e w' => ∃ a n c g u l, e = .returned (.slice a n c) ∧ NRow w' (.slice a n c) g (l.map nodeV) ∧ n = l.length ∧ Nbrs G u l ∧ (P ≠ [] → u ∈ P) ∧ w.heap.size ≤ g ∧ Keep (fun _ => False) w w' :=
  (pivot_spec hG hp hx hP hX hne).mono (by
    rintro e w' ⟨v, g, u, i, rfl, h1, h2, h3, h4, h5⟩
    obtain ⟨a, c, rfl⟩ := h1.slice
    exact ⟨a, _, c, g, u, _, rfl, h1, by simp, Nbrs.of hO h2, h3, h4, h5⟩)
structure Lp (wc wr : World) (G : PG) (B pb kb pm xm rb r0 nm : Nat) (v rv : Value) (cs : List CE) (r P X NU : List Int) (u : Int) (vc : Value) (cc : List CE) (Pc Xc rest : List Int) : Prop where
  st : St wr G B pb kb pm xm rb r0 nm vc rv (cs ++ cc) r Pc Xc rest NU
  new : ∀ c ∈ cc, c.b = rb ∨ wc.heap.size ≤ c.b
  keep : Keep (fun b => b = kb ∨ v.ownBlock = some b ∨ b = pm ∨ b = xm) wc wr
  mv : vc.ownBlock = v.ownBlock ∨ ∃ g, vc.ownBlock = some g ∧ wc.heap.size ≤ g
  cnt : cc.length + 2 ^ Pc.length ≤ 2 ^ P.length
  sub : (∀ y ∈ Pc, y ∈ P) ∧ (∀ y ∈ Xc, y ∈ G.ids)
theorem Lp.next {wc wr w2 : World} {G : PG} {B pb kb pm xm rb r0 nm : Nat} {v rv : Value} {cs : List CE} {r P X NU : List Int} {u : Int} {vc : Value} {cc : List CE} {Pc Xc rest : List Int} (h : Lp wc wr G B pb kb pm xm rb r0 nm v rv cs r P X NU u vc cc Pc Xc rest) {k : Int}
    (hr : Rng w2 r0 pm (nkv Pc) (nkv (sdel rest k))) (hk : Keep (fun b => b = r0) wr w2) (hlow : wc.heap.size ≤ r0) (hB : B ≤ wc.heap.size) :
    Lp wc w2 G B pb kb pm xm rb r0 nm v rv cs r P X NU u vc cc Pc Xc (sdel rest k) :=
  ⟨h.st.next hr hk (by omega), h.new, h.keep.trans hk (fun b hb e => by omega), h.mv, h.cnt, h.sub⟩
theorem Lp.keepN {S : Nat → Prop} {wc wr w2 : World} {G : PG} {B pb kb pm xm rb r0 nm : Nat} {v rv : Value} {cs : List CE} {r P X NU : List Int} {u : Int} {vc : Value} {cc : List CE} {Pc Xc rest : List Int} (h : Lp wc wr G B pb kb pm xm rb r0 nm v rv cs r P X NU u vc cc Pc Xc rest)
    (hk : Keep S wr w2) (hS : ∀ b, S b → wr.heap.size ≤ b) : Lp wc w2 G B pb kb pm xm rb r0 nm v rv cs r P X NU u vc cc Pc Xc rest :=
  ⟨h.st.keepN hk hS, h.new, h.keep.trans hk (fun b hb e => by have := hS b e; have := h.keep.size; omega), h.mv, h.cnt, h.sub⟩
theorem Lp.done {wc w12 w13 w14 w15 : World} {G : PG} {B pb kb pm xm rb r0 nm m1 m2 gs : Nat} {v rv vc v' : Value} {cs cc cs' : List CE} {r P X NU Pc Xc rest ks1 : List Int} {u k : Int}
    (h : Lp wc w12 G B pb kb pm xm rb r0 nm v rv cs r P X NU u vc cc Pc Xc rest) (hb : BKAt w13 G kb v' ((cs ++ cc) ++ cs')) (hk13 : Keep (fun b => b = kb ∨ vc.ownBlock = some b ∨ b = m1 ∨ b = m2) w12 w13)
    (hnew : ∀ c ∈ cs', c.b = gs ∨ w12.heap.size ≤ c.b) (hmv : v'.ownBlock = vc.ownBlock ∨ ∃ g, v'.ownBlock = some g ∧ w12.heap.size ≤ g) (hlen : cs'.length ≤ 2 ^ ks1.length) (hks : ks1.length < Pc.length) (hkPc : k ∈ Pc) (hk : k ∈ G.ids)
    (hgs : wc.heap.size ≤ gs) (hB : B ≤ wc.heap.size)
    (h1 : m1 ≠ kb ∧ m1 ≠ rb ∧ m1 ≠ pm ∧ m1 ≠ xm ∧ m1 ≠ r0 ∧ m1 ≠ nm ∧ wc.heap.size ≤ m1) (h2 : m2 ≠ kb ∧ m2 ≠ rb ∧ m2 ≠ pm ∧ m2 ≠ xm ∧ m2 ≠ r0 ∧ m2 ≠ nm ∧ wc.heap.size ≤ m2)
    (hp14 : NSet w14 pm (sdel Pc k)) (hr14 : ∀ r rest, Rng w13 r pm (nkv Pc) (nkv rest) → Rng w14 r pm (nkv (sdel Pc k)) (nkv (sdel rest k))) (hk14 : Keep (fun b => b = pm) w13 w14) (hx15 : NSet w15 xm (sadd Xc k)) (hk15 : Keep (fun b => b = xm) w14 w15) :
    Lp wc w15 G B pb kb pm xm rb r0 nm v rv cs r P X NU u v' (cc ++ cs') (sdel Pc k) (sadd Xc k) (sdel rest k) := by
  have hw := h.keep.size
  have s13 := h.st.call hb hk13 ⟨h1.1, h1.2.1, h1.2.2.1, h1.2.2.2.1, h1.2.2.2.2.1, h1.2.2.2.2.2.1, by omega⟩ ⟨h2.1, h2.2.1, h2.2.2.1, h2.2.2.2.1, h2.2.2.2.2.1, h2.2.2.2.2.2.1, by omega⟩ hmv
  rw [List.append_assoc] at s13
  have s14 := s13.rem hp14 (hr14 _ _ s13.rng) hk14
  have s15 := s14.add hx15 hk15
  refine ⟨s15, fun c hc => ?_, ((h.keep.trans hk13 ?_).trans hk14 ?_).trans hk15 ?_, ?_, ?_, fun y hy => h.sub.1 y (mem_sdel.1 hy).1, fun y hy => ?_⟩
  · rcases List.mem_append.1 hc with hc | hc
    · exact h.new c hc
    · rcases hnew c hc with e | e
      · right; omega
      · right; omega
  · rintro b hb (e | e | e | e)
    · exact .inl e
    · rcases h.mv with h' | ⟨g, hg, hge⟩
      · exact .inr (.inl (h' ▸ e))
      · rw [hg] at e; cases e; omega
    · have := h1.2.2.2.2.2.2; omega
    · have := h2.2.2.2.2.2.2; omega
  · exact fun b hb e => .inr (.inr (.inl e))
  · exact fun b hb e => .inr (.inr (.inr e))
  · rcases hmv with e | ⟨g, hg, hge⟩
    · rw [e]; exact h.mv
    · exact .inr ⟨g, hg, by omega⟩
  · have a1 : (sdel Pc k).length < Pc.length := sdel_length hkPc
    have a2 : 2 ^ (sdel Pc k).length ≤ 2 ^ (Pc.length - 1) := Nat.pow_le_pow_right (by omega) (by omega)
    have a3 : 2 ^ ks1.length ≤ 2 ^ (Pc.length - 1) := Nat.pow_le_pow_right (by omega) (by omega)
    have a4 : 2 ^ (Pc.length - 1) + 2 ^ (Pc.length - 1) ≤ 2 ^ Pc.length := pow_half (by omega)
    have a5 := h.cnt
    rw [List.length_append]
    omega
  · rcases mem_sadd.1 hy with hy | rfl
    · exact h.sub.2 y hy
    · exact hk
set_option maxHeartbeats 16000000 in
set_option maxRecDepth 100000 in
theorem mcp_step {B pb : Nat} {G : PG} (hG : UG G) (n : Nat) (ih : ∀ m, m < n → McpSpec B pb G m) : McpSpec B pb G n := by
  intro w kb pm xm rb v rv cs r P X hPn h
  by_cases hleaf : P = [] ∧ X = []
  · obtain ⟨rfl, rfl⟩ := hleaf
    have := h.len
    exact mcp_leaf h.bk h.rr h.cl h.n1 h.n2 h.p h.x (by simpa using this)
  have hne : P ≠ [] ∨ X ≠ [] := by
    by_cases h1 : P = []
    · exact .inr fun h2 => hleaf ⟨h1, h2⟩
    · exact .inl h1
  have hPl : P.length ≤ 1000 := Nat.le_trans (nodup_le h.p.nodup (fun u hu => (h.hP u hu).1)) hG.ok.small
  have hXl : X.length ≤ 1000 := Nat.le_trans (nodup_le h.x.nodup h.hX) hG.ok.small
  have hlp := nlen h.p
  have hlx := nlen h.x
  have hd : ((P.length : Int) == 0) = false ∨ (((P.length : Int) == 0) = true ∧ ((X.length : Int) == 0) = false) := by
    cases P with
    | cons a l => left; simp; omega
    | nil => right; refine ⟨by simp, ?_⟩; cases X with
      | nil => simp at hne
      | cons a l => simp; omega
  have hpv := fun kv => pivot_use hG.ok kv h.pl h.p h.x (fun u hu => (h.hP u hu).1) h.hX hne
  obtain ⟨roff, rcap, hrv, _, hrne, hrc1, hrc2⟩ := id h.rr
  subst hrv
  have HPV := Lib.hid hpv
  have HRNE := Lib.hid hrne
  have H := Lib.hid h
  have IH := Lib.hid ih
  have HD := Lib.hid hd
  have HPN := Lib.hid hPn
  have HNE := Lib.hid hne
  have HG := Lib.hid hG
  have l1 := h.p.lt
  have l2 := h.x.lt
  obtain ⟨i0, hi0, hz0, hz1, hz2⟩ := info_parts infoNode
  have hrl : r.length ≤ 1000 := Nat.le_trans (h.cl.length hG) hG.ok.small
  generalize hpl : P.length = p at *
  generalize hxl : X.length = x at *
  have HPLEN := Lib.hid hpl
  have HXLEN := Lib.hid hxl
  clear hpv h ih hd hPn hne hG hleaf hpl hxl hrne
  go_enter Tryz.func139, Tryz.ntmps139
  go_upto_region 0 with fail
  go_cut [32] from 25 to 32 (fun b wx => b = .bool false ∧ wx = w)
  case first =>
    rcases HD.out with hd | ⟨hd, hd2⟩
    · go_wp2_with fail
      all_goals go_meet
      all_goals exact ⟨rfl, rfl⟩
    · go_wp2_with fail
      all_goals go_meet
      all_goals exact ⟨rfl, rfl⟩
  case rest =>
    obtain ⟨rfl, rfl⟩ := hcut
    clear hlp hlx
    go_wp2_with (first
      | (((with_reducible refine (HPV.out _).mono ?_); rintro e w1 ⟨a1, n1, c1, g1, u, l0, rfl, hn1, hn1l, hnb, hu, hg1, hk1⟩); have HN1 := Lib.hid hn1; have HN1L := Lib.hid hn1l; have HNB := Lib.hid hnb; have HU := Lib.hid hu; have HK1 := Lib.hid hk1; clear hn1 hn1l hnb hu hk1)
      | (((with_reducible refine (NewNodesSize_spec _ _).mono ?_); rintro e w2 ⟨rfl, hw2⟩)))
    subst hw2
    have hm2 : NSet (w1.alloc (.map #[] 0)) w1.heap.size (l0.take 0) := NSet.made w1
    have hk2 : Keep (fun b => b = w1.heap.size) w1 (w1.alloc (.map #[] 0)) := (Keep.refl _ _).alloc _
    have HM2 := Lib.hid hm2
    have HK2 := Lib.hid hk2
    clear hm2 hk2
    have hn1b := HNB.out.len
    have hn1c := HN1L.out
    rw [← hn1c] at hn1b
    clear hn1c
    obtain ⟨ax, cx, hax, hcells⟩ := nodes_cases HN1.out.row
    cases hax
    have HCELL := Lib.hid hcells
    clear hcells
    generalize hll : l0.length = n1 at *
    have HLL := Lib.hid hll
    clear hll
    go_loopw [51] (fun i wr => ∃ k : Nat, i = .int .i64 (k : Int) ∧ k ≤ n1 ∧ NSet wr w1.heap.size (l0.take k) ∧ Keep (fun b => b = w1.heap.size) w1 wr) (fun i _ => n1 - (intOf i).toNat)
    case atStart => exact ⟨0, rfl, Nat.zero_le _, HM2.out, HK2.out⟩
    case round =>
      obtain ⟨k, rfl, hkn, hm, hk⟩ := hrel
      clear HM2 HK2
      have HM := Lib.hid hm
      have HK := Lib.hid hk
      clear hm hk
      by_cases hlt : k < n1
      · obtain ⟨b, off, y, rfl, hy, _, hcc⟩ := HCELL.out k hlt
        have c0 := hcc _ _ HK.out (fun b hb => by omega)
        have HY := Lib.hid hy
        clear hcc hy
        go_wp2_with (first
          | (((with_reducible refine (NAdd_spec HM.out _).mono ?_); rintro e w3 ⟨rfl, h3, hk3, hs3⟩); have H3 := Lib.hid h3; have HK3 := Lib.hid hk3; clear h3 hk3 hs3))
        go_roundw
        case rel => exact ⟨k + 1, by go_num, by omega, by rw [← sadd_take HNB.out.nd HY.out]; exact H3.out, HK.out.trans HK3.out (fun b hb h => h)⟩
        case measure => simp [intOf]; omega
      · obtain rfl : k = n1 := by omega
        have hm' : NSet wr w1.heap.size l0 := by have := HM.out; rwa [← HLL.out, List.take_length] at this
        have HM' := Lib.hid hm'
        have hkw : Keep (fun b => wc.heap.size ≤ b) wc wr := (HK1.out.mono (T := fun b => wc.heap.size ≤ b) (fun _ _ h => h.elim)).trans HK.out (fun b hb h => by have := HK1.out.size; omega)
        have hws := HK1.out.size
        have HKW := Lib.hid hkw
        have hpm := H.out.p.keep hkw (fun h => by omega)
        have HPM := Lib.hid hpm
        have hwrs := hkw.size
        have hnml := hm'.lt
        clear hm' hkw hpm HM HK
        go_wp2_with (first
          | (at_range; refine wpList_range_kv rfl _ _ rfl 2 66 Tryz.underlying229 pm _ rfl HPM.out ?_; intro w3 hr hk3 hs3; have HR := Lib.hid hr; have HK3 := Lib.hid hk3; clear hr hk3 hs3; go_frame))
        have hkw3 : Keep (fun b => wc.heap.size ≤ b) wc w3 := HKW.out.trans HK3.out (fun _ _ h => h.elim)
        have hB : B ≤ wc.heap.size := by have := H.out.low.2.2.1; omega
        have hlp : Lp wc w3 G B pb kb pm xm rb wr.heap.size w1.heap.size v (.slice (some ⟨rb, roff, none⟩) r.length rcap) cs r P X l0 u v [] P X P :=
          ⟨by rw [List.append_nil]; exact ⟨H.out.pl.keep hkw3 (fun b hb => by omega), H.out.bk.keepN hkw3 (fun b hb => hb), H.out.rr.keep hkw3 (fun hb => by have := H.out.rr.lt; omega), H.out.n1, H.out.n2, H.out.p.keep hkw3 (fun hb => by omega), H.out.x.keep hkw3 (fun hb => by omega), H.out.px, HR.out, HM'.out.keepF HK3.out, ⟨by omega, by omega⟩, H.out.low⟩,
            fun c hc => (by cases hc), hkw3.mono (fun b hb h => by omega), .inl rfl, by simp, ⟨fun y hy => hy, H.out.hX⟩⟩
        have hone : X = [] → ([] : List CE) ≠ [] ∨ (X = [] ∧ u ∈ P) := fun hx => .inr ⟨hx, HU.out (by rcases HNE.out with h | h; exact h; exact absurd hx h)⟩
        have HONE := Lib.hid hone
        clear hone
        have hr0 : wc.heap.size ≤ wr.heap.size := by omega
        have hun : u ∉ l0 := fun hu => HG.out.irr u ((HNB.out.mem u).1 hu)
        have HUN := Lib.hid hun
        have HLP := Lib.hid hlp
        clear hkw3 hlp hun HR HPM HKW HM' HK3 HK1 HPV HU HNE HD
        generalize wr.heap.size = r0 at *
        generalize w1.heap.size = nm at *
        go_loopg [] (P.length + 1) (fun gk wr => ∃ (vc : Value) (cc : List CE) (Pc Xc rest : List Int), rest.length + 1 = gk ∧ Lp wc wr G B pb kb pm xm rb r0 nm v (.slice (some ⟨rb, roff, none⟩) r.length rcap) cs r P X l0 u vc cc Pc Xc rest ∧ (X = [] → cc ≠ [] ∨ (Xc = [] ∧ u ∈ rest)))
        case atStart => exact ⟨v, [], P, X, P, rfl, HLP.out, HONE.out⟩
        case round =>
          clear HLP HONE
          obtain ⟨vc, cc, Pc, Xc, rest, hgk, hlp, hone⟩ := hrel
          have HONE := Lib.hid hone
          clear hone
          have HGK := Lib.hid hgk
          have HLP := Lib.hid hlp
          clear hgk hlp
          go_wp2_with (first
            | (at_next; refine wpList_next_ent rfl _ rfl r0 pm _ _ rfl HLP.out.st.rng ?_ ?_; rotate_left; intro k v' w2 hmem hr2 hk2 hs2 hent; obtain ⟨hkR, rfl⟩ := mem_nkv hmem; rw [kdel_nkv] at hr2; have HKR := Lib.hid hkR; have HR2 := Lib.hid hr2; have HK2 := Lib.hid hk2; clear hmem hkR hr2 hk2 hs2; by_cases hin : k ∈ l0; have HIN := Lib.hid hin; have hh := NHas_spec (HLP.out.st.next HR2.out HK2.out (by omega)).nu k; rw [show l0.contains k = true by simpa using hin] at hh; have HH := Lib.hid hh; clear hin hh; rotate_left; have HIN := Lib.hid hin; have hh := NHas_spec (HLP.out.st.next HR2.out HK2.out (by omega)).nu k; rw [show l0.contains k = false by simpa using hin] at hh; have HH := Lib.hid hh; clear hin hh; rotate_left; intro hnil; have HNIL := Lib.hid hnil; clear hnil)
            | (((with_reducible refine (HH.out).mono ?_); rintro e w4 ⟨rfl, hk4⟩); have HK4 := Lib.hid hk4; clear hk4))
          · go_returns
            have hrest : rest = [] := by simpa using HNIL.out
            subst hrest
            refine ⟨rfl, vc, cc, HLP.out.st.bk, fun hx => ?_, Nat.le_trans (Nat.le_add_right _ _) HLP.out.cnt, HLP.out.new, HLP.out.keep, HLP.out.mv⟩
            rcases HONE.out hx with h | ⟨_, h⟩
            · exact h
            · cases h
          · go_roundg ((sdel rest k).length + 1)
            case measure => have := HGK.out; have := sdel_length HKR.out; omega
            case rel => exact ⟨vc, cc, Pc, Xc, sdel rest k, rfl, (HLP.out.next HR2.out HK2.out hr0 hB).keepN HK4.out (fun _ h => h.elim), fun hx => (HONE.out hx).imp id fun ⟨h1, h2⟩ => ⟨h1, mem_sdel.2 ⟨h2, fun e => HUN.out (e ▸ HIN.out)⟩⟩⟩
          · have hlp4 := (HLP.out.next HR2.out HK2.out hr0 hB).keepN HK4.out (fun _ h => h.elim)
            have hkP := HLP.out.sub.1 k ((nkv_sub HLP.out.st.rng.sub).mem HKR.out)
            have hkPc := (nkv_sub HLP.out.st.rng.sub).mem HKR.out
            have hki := H.out.hP k hkP
            obtain ⟨i, hi, hfr⟩ := From_mem hlp4.st.pl hki.1
            have HLP4 := Lib.hid hlp4
            have HKI := Lib.hid hki
            have HKPC := Lib.hid hkPc
            have HFR := Lib.hid hfr
            have HNB2 := Lib.hid (Nbrs.of HG.out.ok hi)
            generalize hm : G.nbr i = m at *
            clear hlp4 hki hkP hkPc hfr hi hm
            go_wp2_with (first
              | (((with_reducible refine (ID_at _ _).mono ?_); rintro e w5 ⟨rfl, rfl⟩))
              | (((with_reducible refine (HFR.out _ (Keep.refl _ _)).mono ?_); rintro e w6 ⟨it, g2, rfl, hi6, hl6, hg6, hk6⟩))
              | (((with_reducible refine (NodesOf_spec hi6).mono ?_); rintro e w7 ⟨v7, rfl, hn7, hk7, hs7⟩); obtain ⟨a7, n7, c7, hn7l, rfl⟩ : ∃ a n c, n = m.length ∧ v7 = .slice a n c := (by obtain ⟨a, c, h⟩ := hn7.slice; exact ⟨a, _, c, by simp, h⟩); have HN7 := Lib.hid hn7; have HN7L := Lib.hid hn7l; have HK47 := Lib.hid ((hk6.mono (T := fun b => w4.heap.size ≤ b) (fun _ _ h => h.elim)).trans hk7 (fun b hb h => by omega)); clear hn7 hn7l hk6 hk7 hs7 hi6)
              | (((with_reducible refine (NewNodesSize_spec _ _).mono ?_); rintro e w8 ⟨rfl, rfl⟩)))
            have hm8 : NSet (w7.alloc (.map #[] 0)) w7.heap.size (m.take 0) := NSet.made w7
            have hk8 : Keep (fun b => b = w7.heap.size) w7 (w7.alloc (.map #[] 0)) := (Keep.refl _ _).alloc _
            have HM8 := Lib.hid hm8
            have HK8 := Lib.hid hk8
            clear hm8 hk8
            obtain ⟨ax, cx, hax, hcells⟩ := nodes_cases HN7.out.row
            cases hax
            have HCELL7 := Lib.hid hcells
            clear hcells
            have hn7b := HNB2.out.len
            generalize hll : m.length = n7 at *
            have HLL7 := Lib.hid hll
            clear hll
            go_loopw [79] (fun i wr => ∃ k : Nat, i = .int .i64 (k : Int) ∧ k ≤ n7 ∧ NSet wr w7.heap.size (m.take k) ∧ Keep (fun b => b = w7.heap.size) w7 wr) (fun i _ => n7 - (intOf i).toNat)
            case atStart => exact ⟨0, rfl, Nat.zero_le _, HM8.out, HK8.out⟩
            case round =>
              obtain ⟨k3, rfl, hkn3, hm, hk⟩ := hrel
              clear HM8 HK8
              have HM := Lib.hid hm
              have HK := Lib.hid hk
              clear hm hk
              by_cases hlt3 : k3 < n7
              · obtain ⟨b, off, y, rfl, hy, _, hcc⟩ := HCELL7.out k3 hlt3
                have c0 := hcc _ _ HK.out (fun b hb => by omega)
                have HY := Lib.hid hy
                clear hcc hy
                go_wp2_with (first
                  | (((with_reducible refine (NAdd_spec HM.out _).mono ?_); rintro e w3 ⟨rfl, h3, hk3, hs3⟩); have H3 := Lib.hid h3; have HK3 := Lib.hid hk3; clear h3 hk3 hs3))
                go_roundw
                case rel => exact ⟨k3 + 1, by go_num, by omega, by rw [← sadd_take HNB2.out.nd HY.out]; exact H3.out, HK.out.trans HK3.out (fun b hb h => h)⟩
                case measure => simp [intOf]; omega
              · obtain rfl : k3 = n7 := by omega
                have hm9 : NSet wr w7.heap.size m := by have := HM.out; rwa [← HLL7.out, List.take_length] at this
                have hk49 : Keep (fun b => w4.heap.size ≤ b) w4 wr := HK47.out.trans HK.out (fun b hb h => by have := HK47.out.size; omega)
                have hlp9 := HLP4.out.keepN hk49 (fun b h => h)
                have hw47 := HK47.out.size
                have hw79 := HK.out.size
                have HM9 := Lib.hid hm9
                have HK49 := Lib.hid hk49
                have HLP9 := Lib.hid hlp9
                clear hm9 hk49 hlp9 HM HK HK47 HLP4
                have hrcell := fun k y (h : r[k]? = some y) => HLP9.out.st.rr.cell h
                have HRC := Lib.hid hrcell
                clear hrcell
                go_wp2_with fail
                generalize hrn : r.length = rn at *
                have HRN := Lib.hid hrn
                clear hrn
                go_loop [21, 89] (fun f i => ∃ k : Nat, i = .int .i64 (k : Int) ∧ k ≤ rn ∧ f = .bool false) (fun _ i => rn - (intOf i).toNat)
                case atStart => exact ⟨0, rfl, Nat.zero_le _, rfl⟩
                case round =>
                  obtain ⟨k4, rfl, hk4, rfl⟩ := hrel
                  by_cases hlt4 : k4 < rn
                  · obtain ⟨y, hy⟩ : ∃ y, r[k4]? = some y := ⟨_, List.getElem?_eq_getElem (by rw [HRN.out]; exact hlt4)⟩
                    have c0 := HRC.out k4 y hy
                    have d1 : (y == k) = false := by
                      have := HKI.out.2 y (List.mem_of_getElem? hy)
                      have hne : ¬ y = k := fun e => HG.out.irr k (by rw [e] at this; exact this)
                      simpa using hne
                    clear hy
                    go_wp2_with (first
                      | (((with_reducible refine (ID_at _ _).mono ?_); rintro e w5 ⟨rfl, rfl⟩)))
                    go_round
                    case rel => exact ⟨k4 + 1, by go_num, by omega, rfl⟩
                    case measure => simp [intOf]; omega
                  · obtain rfl : k4 = rn := by omega
                    go_wp2_with (first
                      | (at_builtin; refine wpList_append_grows _ rfl _ _ _ rfl 66 i0 .nilIface 1 16 Tryz.underlying61 hi0 hz0 hz1 hz2 rfl (by decide) (some ⟨rb, roff, none⟩) k4 k4 (r.map nodeV) rfl (fun h => by cases h) (by rw [List.length_map, HRN.out, Nat.mul_one]) (fun b hb j u hu => by cases hb; rw [List.getElem?_map] at hu; obtain ⟨y, hy, rfl⟩ := Option.map_eq_some_iff.1 hu; rw [Addr.add_lit, World.cell?_alloc_past _ _ _ (World.block_lt_of_cell? _ _ (HRC.out j y hy))]; exact HRC.out j y hy) ⟨wr.heap.size, 0, none⟩ 1 1 [nodeV k] rfl rfl (World.news_of_block (heap_new wr _)) (by simp [Value.oneCell']) (by omega) (by unfold maxLen; omega) (by omega) ?_; intro v10 w10 ho10 hg10; rw [show r.map nodeV ++ [nodeV k] = (r ++ [k]).map nodeV by simp] at ho10; have hk10 := (((Keep.refl (fun _ => False) wr).alloc _).grown hg10 (fun k h => by cases h)); have HO10 := Lib.hid ho10; have HK10 := Lib.hid hk10; clear ho10 hg10 hk10)
                      )
                    have hcr := CRow.of_owns HO10.out (by rw [List.length_append, HRN.out]; rfl) (by simp)
                    obtain ⟨gs, cs10, hv10, hgs, hcr⟩ := hcr
                    rw [hv10] at hcr ⊢
                    simp only [World.size_alloc] at hgs
                    have hlp10 := HLP9.out.keepN HK10.out (fun _ h => h.elim)
                    have hm10 := HM9.out.keepF HK10.out
                    have hPc : Pc.length ≤ 1000 := Nat.le_trans (nodup_le hlp10.st.p.nodup (fun y hy => (H.out.hP y (hlp10.sub.1 y hy)).1)) HG.out.ok.small
                    have hXc : Xc.length ≤ 1000 := Nat.le_trans (nodup_le hlp10.st.x.nodup hlp10.sub.2) HG.out.ok.small
                    have HLP10 := Lib.hid hlp10
                    have HM10 := Lib.hid hm10
                    have HCR := Lib.hid hcr
                    have hmn : m.length ≤ 1000 := HNB2.out.len
                    clear hlp10 hm10 hcr hv10 HO10
                    go_wp2_with (first
                      | (((with_reducible refine (inter_spec HLP10.out.st.p HM10.out (by omega) (by omega)).mono ?_); rintro e w11 ⟨m1, ks1, rfl, hm1, hs1, hx1, hk11⟩); have HS1 := Lib.hid hs1; have HX1 := Lib.hid hx1; have HK11 := Lib.hid hk11; have HLP11 := Lib.hid (HLP10.out.keepN hk11 (fun _ h => h.elim)); have HM11 := Lib.hid (HM10.out.keepF hk11); clear hs1 hx1 hk11)
                      | (((with_reducible refine (inter_spec HLP11.out.st.x HM11.out (by omega) (by omega)).mono ?_); rintro e w12 ⟨m2, ks2, rfl, hm2, hs2, hx2, hk12⟩); have HS2 := Lib.hid hs2; have HX2 := Lib.hid hx2; have HK12 := Lib.hid hk12; have HLP12 := Lib.hid (HLP11.out.keepN hk12 (fun _ h => h.elim)); clear hs2 hx2 hk12))
                    have s9 := HLP9.out.st
                    have z1 := lt_of_get s9.bk.head
                    have z2 := s9.rr.lt
                    have z3 := s9.p.lt
                    have z4 := s9.x.lt
                    have z5 := s9.rng.lt
                    have z6 := s9.nu.lt
                    have z10 := HK10.out.size
                    have z11 := HK11.out.size
                    have z12 := HK12.out.size
                    have z9 := HLP9.out.keep.size
                    have zm1 := HS1.out.lt
                    have hks1 : ks1.length < Pc.length := by
                      have hnd := HS1.out.nodup
                      have hsub : ∀ y ∈ ks1, y ∈ sdel Pc k := fun y hy => by
                        obtain ⟨hy1, hy2⟩ := (HX1.out y).1 hy
                        exact mem_sdel.2 ⟨hy1, fun e => HG.out.irr k (by rw [e] at hy2; exact (HNB2.out.mem k).1 hy2)⟩
                      exact Nat.lt_of_le_of_lt (nodup_le hnd hsub) (sdel_length HKPC.out)
                    have hPcP : Pc.length ≤ P.length := nodup_le HLP12.out.st.p.nodup HLP12.out.sub.1
                    have hpre : MPre w12 G B pb kb m1 m2 gs vc (.slice (some ⟨gs, 0, none⟩) (k4 + 1) cs10) (cs ++ cc) (r ++ [k]) ks1 ks2 := by
                      refine ⟨HLP12.out.st.pl, HLP12.out.st.bk, (HCR.out.keep HK11.out (fun h => h)).keep HK12.out (fun h => h), H.out.cl.snoc HG.out HKI.out.1 (fun y hy => HKI.out.2 y hy), by omega, fun e => ?_, HS1.out.keepF HK12.out, HS2.out, by omega, fun y hy => ?_, fun y hy => ?_, ?_, H.out.low.1, HLP12.out.st.low.2.1, by omega, by omega⟩
                      · have := ownBlock_lt s9.bk.own e; omega
                      · obtain ⟨hy1, hy2⟩ := (HX1.out y).1 hy
                        have hyP := H.out.hP y (HLP12.out.sub.1 y hy1)
                        refine ⟨hyP.1, fun z hz => ?_⟩
                        rcases List.mem_append.1 hz with hz | hz
                        · exact hyP.2 z hz
                        · simp only [List.mem_singleton] at hz; rw [hz]; exact (HNB2.out.mem y).1 hy2
                      · exact HLP12.out.sub.2 y ((HX2.out y).1 hy).1
                      · have b1 := H.out.len
                        have b2 := HLP12.out.cnt
                        have b3 : 2 ^ ks1.length ≤ 2 ^ Pc.length := Nat.pow_le_pow_right (by omega) (by omega)
                        rw [List.length_append]; omega
                    have hrec := IH.out ks1.length (by rw [← HPN.out, ← HPLEN.out]; omega) w12 kb m1 m2 gs vc _ (cs ++ cc) (r ++ [k]) ks1 ks2 rfl hpre
                    have HREC := Lib.hid hrec
                    have HKS1 := Lib.hid hks1
                    clear s9 hpre hrec hks1 hPcP
                    go_wp2_with (first
                      | (((with_reducible refine (HREC.out).mono ?_); rintro e w13 ⟨rfl, v13, cs13, hb13, hone13, hlen13, hnew13, hk13, hmv13⟩); have s13 := HLP12.out.st.call hb13 hk13 ⟨by omega, by omega, by omega, by omega, by omega, by omega, by omega⟩ ⟨by omega, by omega, by omega, by omega, by omega, by omega, by omega⟩ hmv13; have S13 := Lib.hid s13; have HB13 := Lib.hid hb13; have HONE13 := Lib.hid hone13; have HLEN13 := Lib.hid hlen13; have HNEW13 := Lib.hid hnew13; have HK13 := Lib.hid hk13; have HMV13 := Lib.hid hmv13; clear s13 hb13 hone13 hlen13 hnew13 hk13 hmv13)
                      | (((with_reducible refine (NRem_spec S13.out.p k).mono ?_); rintro e w14 ⟨rfl, hp14, hr14, hk14, hs14⟩); have hx14 := S13.out.x.keep hk14 (fun e => S13.out.px e.symm); have HP14 := Lib.hid hp14; have HR14 := Lib.hid hr14; have HK14 := Lib.hid hk14; have HX14 := Lib.hid hx14; clear hp14 hr14 hk14 hs14 hx14)
                      | (((with_reducible refine (NAdd_spec HX14.out k).mono ?_); rintro e w15 ⟨rfl, hx15, hk15, hs15⟩); have HX15 := Lib.hid hx15; have HK15 := Lib.hid hk15; clear hx15 hk15 hs15))
                    go_roundg ((sdel rest k).length + 1)
                    case measure => have := HGK.out; have := sdel_length HKR.out; omega
                    case rel =>
                      have hd := HLP12.out.done HB13.out HK13.out HNEW13.out HMV13.out HLEN13.out HKS1.out HKPC.out HKI.out.1 (by omega) hB ⟨by omega, by omega, by omega, by omega, by omega, by omega, by omega⟩ ⟨by omega, by omega, by omega, by omega, by omega, by omega, by omega⟩ HP14.out HR14.out HK14.out HX15.out HK15.out
                      rw [sdel_twice] at hd
                      refine ⟨v13, cc ++ cs13, sdel Pc k, sadd Xc k, sdel rest k, rfl, hd, fun hx => .inl ?_⟩
                      rcases HONE.out hx with h | ⟨h, _⟩
                      · intro e; exact h (List.append_eq_nil_iff.1 e).1
                      · have hk2 : ks2 = [] := by
                          cases ks2 with
                          | nil => rfl
                          | cons y l => have := ((HX2.out y).1 (by simp)).1; rw [h] at this; cases this
                        intro e; exact HONE13.out hk2 (List.append_eq_nil_iff.1 e).2
theorem mcp_spec {B pb : Nat} {G : PG} (hG : UG G) (n : Nat) : McpSpec B pb G n := by
  induction n using Nat.strongRecOn with
  | _ n ih => exact mcp_step hG n ih
end Go.Proofs.YtdaccgelmcmfjaaGreatDoor
