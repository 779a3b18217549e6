/- coloring.cliqueDegree: it returns some number. -/
import Derived.Test.YtpjaeilkjglfhaaGreatJQ1
import Derived.Deep.CutRange
import Derived.Deep.RegionLaw
set_option linter.all false
namespace Go.Proofs.YtpjaeilkjglfhaaGreat
open Go.RowKit Go.V
def FromAt (w wx : World) (tv : Value) (l : List Int) : Prop := ∃ it g, tv = .iface 442 (.pointer (some ⟨it, 0, none⟩)) ∧ Iter wx it g (l.map nodeV) 0 ∧ w.heap.size ≤ it ∧ w.heap.size ≤ g ∧ Keep (fun _ => False) w wx
theorem FromAt.undrew {w wx : World} {tv : Value} {l : List Int} (h : FromAt w.drew wx tv l) : FromAt w wx tv l := by
  obtain ⟨it, g, h1, h2, h3, h4, h5⟩ := h
  exact ⟨it, g, h1, h2, h3, h4, Keep.trans (Keep.refl (fun _ => False) w).drew h5 (fun _ _ h => h)⟩
theorem nilFrom (pb : Nat) (w : World) : (nilAhead 571 57 (uV pb) "From").run Tryz.prog w = .ok (some false) w := by kernel_rfl
set_option maxHeartbeats 4000000 in
set_option maxRecDepth 20000 in
theorem cliqueDegree_spec {B B' : Nat} {w : World} {pb : Nat} {G : PG} {v : Value} {l : List Int} (hG : Plain B w pb G) (h : Row B' w v (l.map nodeV)) (hl : ∀ u ∈ l, u ∈ G.ids) (hlen : l.length ≤ 1000000) :
    Calls Tryz.prog 144 #[gV pb, v] w fun e w' => ∃ d : Int, e = .returned (.int .i64 d) ∧ Keep (fun _ => False) w w' := by
  have hmm := @run_makeMap Tryz.prog
  have hnf := nilFrom pb
  obtain ⟨a, cap, rfl, hc⟩ := nodes_cases h
  have hfr : ∀ u ∈ l, ∃ m : List Int, ∀ W, Keep (fun _ => False) w W → Calls Tryz.prog 333 #[uV pb, .int .i64 u] W fun e w' => ∃ tv, e = .returned tv ∧ FromAt W w' tv m := fun u hu => by
    obtain ⟨i, hi⟩ := List.mem_iff_getElem?.1 (hl u hu)
    exact ⟨_, fun W hk => (From_any hG hi W hk).mono (by rintro e w' ⟨it, g, rfl, h1, h2, h3, h4⟩; exact ⟨_, rfl, it, g, rfl, h1, h2, h3, h4⟩)⟩
  generalize hnn : l.length = n at *
  have HC := Lib.hid hc
  have HFR := Lib.hid hfr
  clear hc h hnn hfr hl hG
  go_enter Tryz.func144, Tryz.ntmps144
  go_wp2_with fail
  have HK0 := Lib.hid ((Keep.refl (fun _ => False) w).alloc (.map #[] 0))
  have HS0 := Lib.hid (SetAt.made w)
  go_loopg [12] (n + 1) (fun gk i wr => ∃ (k : Nat) (ks : List Int), i = .int .i64 (k : Int) ∧ k + gk = n + 1 ∧ k ≤ n ∧ SetAt wr w.heap.size ks ∧ Keep (fun _ => False) w wr)
  case atStart => exact ⟨0, [], rfl, by omega, by omega, HS0.out, HK0.out⟩
  case round =>
    obtain ⟨k, ks, rfl, hgk, hkn, hs, hk⟩ := hrel
    clear HK0 HS0
    have HS := Lib.hid hs
    have HK := Lib.hid hk
    have HGK := Lib.hid hgk
    clear hs hk hgk
    by_cases hlt : k < n
    · obtain ⟨b, off, u, rfl, hu, _, hcc⟩ := HC.out k hlt
      have c0 := hcc _ _ HK.out (fun _ h => h.elim)
      obtain ⟨m, hfm⟩ := HFR.out u (List.mem_of_getElem? hu)
      have HFM := Lib.hid hfm
      clear hcc hu hfm
      go_upto_region 5 with fail; go_cut [8] from 16 to 22 (fun tv wx => FromAt wr wx tv m); case first => (go_region_with (first | (((with_reducible refine (ID_spec _ _).mono ?_); rintro e w3 ⟨rfl, rfl⟩)) | (((with_reducible refine (HFM.out _ (HK.out.drew)).mono ?_); rintro e w3 ⟨tv, rfl, hto⟩))); all_goals (go_wp2_with fail); all_goals go_meet; all_goals exact FromAt.undrew hto)
      obtain ⟨it, g, rfl, hi, h1, h2, hk2⟩ := hcut
      have hs2 := HS.out.keep hk2 (fun h => h)
      have hsl := HS.out.lt
      have HI := Lib.hid hi
      have HS2 := Lib.hid hs2
      have HK2 := Lib.hid (HK.out.trans hk2 (fun _ _ h => h))
      have hws := HK.out.size
      clear hi hk2 hs2 HS HK
      generalize gk = go at *
      go_wp2_with fail
      go_loopg [] (m.length + 1) (fun gk2 wr => ∃ (j : Nat) (ks : List Int), j + gk2 = m.length + 1 ∧ j ≤ m.length ∧ Iter wr it g (m.map nodeV) j ∧ SetAt wr w.heap.size ks ∧ Keep (fun _ => False) w wr)
      case atStart => exact ⟨0, ks, by omega, by omega, HI.out, HS2.out, HK2.out⟩
      case round =>
        clear HI HS2 HK2
        obtain ⟨j, ks, hgk2, hjm, hi, hs, hk⟩ := hrel
        have HI := Lib.hid hi
        have HS := Lib.hid hs
        have HK := Lib.hid hk
        have HGK2 := Lib.hid hgk2
        clear hi hs hk hgk2
        by_cases hjt : j < m.length
        · obtain ⟨v, hv⟩ : ∃ v, m[j]? = some v := ⟨_, List.getElem?_eq_getElem hjt⟩
          have HV := Lib.hid hv
          clear hv
          go_wp2_with (first
            | (((with_reducible refine (Next_true HI.out hjt).mono ?_); rintro e w2 ⟨rfl, hi2, hk2, hs2⟩); have HI2 := Lib.hid hi2; have HS2 := Lib.hid (HS.out.keep hk2 (by omega)); have HK2 := Lib.hid (HK.out.trans hk2 (fun b hb h => by omega)); clear hi2 hk2 hs2)
            | (((with_reducible refine (Node_at HI2.out HV.out).mono ?_); rintro e w3 ⟨rfl, q, rfl⟩))
            | (((with_reducible refine (ID_spec _ _).mono ?_); rintro e w3 ⟨rfl, rfl⟩))
            | (((with_reducible refine (AddL_spec (HS2.out.keep ((Keep.refl (fun _ => False) w2).drewN q) (fun h => h)) _).mono ?_); rintro e w4 ⟨rfl, h4, hk4, hs4⟩); have HS4 := Lib.hid h4; have HK4 := Lib.hid hk4; clear h4 hk4 hs4))
          go_roundg (gk - 1)
          case measure => have := HGK2.out; omega
          case rel => exact ⟨j + 1, _, by have := HGK2.out; omega, by omega, (HI2.out.keep ((Keep.refl (fun _ => False) w2).drewN q) (fun h => h) (fun h => h)).keep HK4.out (by omega) (by omega), HS4.out, (HK2.out.drewN q).trans HK4.out (fun b hb h => by omega)⟩
        · obtain rfl : j = m.length := by omega
          go_wp2_with (first
            | (((with_reducible refine (Next_false HI.out).mono ?_); rintro e w2 ⟨rfl, hk2, hs2⟩); have HS2 := Lib.hid (HS.out.keep hk2 (by omega)); have HK2 := Lib.hid (HK.out.trans hk2 (fun b hb h => by omega)); clear hk2 hs2))
          go_roundg (go - 1)
          case measure => have := HGK.out; omega
          case rel => exact ⟨k + 1, ks, by go_num, by have := HGK.out; omega, by omega, HS2.out, HK2.out⟩
    · obtain rfl : k = n := by omega
      go_wp2_with (first
        | (((with_reducible refine (CountL_spec HS.out).mono ?_); rintro e w3 ⟨rfl, rfl⟩)))
      go_ret
      exact ⟨_, rfl, HK.out⟩
end Go.Proofs.YtpjaeilkjglfhaaGreat
