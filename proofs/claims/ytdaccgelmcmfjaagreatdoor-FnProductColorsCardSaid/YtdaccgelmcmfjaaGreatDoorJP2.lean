/- Lists of nodes in the order of their numbers, and where each stands (order.ByID, product.lexicalNodes, indexOf). -/
import Derived.Test.YtdaccgelmcmfjaaGreatDoorJM11
import Derived.Test.YtdaccgelmcmfjaaGreatDoorJQ1
import Derived.Test.YtdaccgelmcmfjaaGreatDoorJN8
set_option linter.all false
section
namespace Go.Proofs.YtdaccgelmcmfjaaGreatDoor
open Go.RowKit Go.V Go.Sort
set_option maxHeartbeats 4000000 in
set_option maxRecDepth 20000 in
theorem indexOf_spec {B : Nat} {w : World} {v : Value} {l : List Int} (h : Row B w v (l.map nodeV)) (hn : l.Nodup) (hlen : l.length ≤ 1000000) :
    Calls Tryz.prog 28 #[v] w fun e w' => ∃ m, e = .returned (.map (some m)) ∧ w.heap.size ≤ m ∧ ColAt w' m l.zipIdx ∧ Keep (fun _ => False) w w' := by
  have hmm := @run_makeMapN Tryz.prog _ _ _ Tryz.underlying83
  obtain ⟨a, cap, rfl, hc⟩ := nodes_cases h
  have hz := fun k u => @cget_zip_take l hn k u
  have hfin : (l.take l.length).zipIdx = l.zipIdx := by rw [List.take_length]
  have HFIN := Lib.hid hfin
  generalize hnn : l.length = n at *
  have HC := Lib.hid hc
  have HZ := Lib.hid hz
  clear hc h hnn hz hn hfin
  go_enter Tryz.func28, Tryz.ntmps28
  go_wp2_with fail
  have hk0 := (Keep.refl (fun _ => False) w).alloc (.map #[] 0)
  have hm0 : ColAt (w.alloc (.map #[] 0)) w.heap.size (l.take 0).zipIdx := MapAt.made w
  have HK0 := Lib.hid hk0
  have HM0 := Lib.hid hm0
  clear hk0 hm0
  go_loopw [11] (fun i wr => ∃ k : Nat, i = .int .i64 (k : Int) ∧ k ≤ n ∧ ColAt wr w.heap.size (l.take k).zipIdx ∧ Keep (fun _ => False) w wr) (fun i _ => n - (intOf i).toNat)
  case atStart => exact ⟨0, rfl, Nat.zero_le _, HM0.out, HK0.out⟩
  case round =>
    obtain ⟨k, rfl, hkn, hm, hk⟩ := hrel
    have HM := Lib.hid hm
    have HK := Lib.hid hk
    clear hm hk
    by_cases hlt : k < n
    · obtain ⟨b, off, u, rfl, hu, _, hcc⟩ := HC.out k hlt
      have c0 := hcc _ _ HK.out (fun _ h => h.elim)
      have HU := Lib.hid hu
      clear hcc hu
      go_wp2_with (first
        | (((with_reducible refine (ID_spec _ _).mono ?_); rintro e w3 ⟨rfl, rfl⟩))
        | (at_mapUpdate; refine wpList_update_kv rfl _ _ _ _ rfl 2 3 Tryz.underlying83 Tryz.underlying2 w.heap.size _ u (.int .i64 (k : Int)) rfl rfl rfl HM.out ?_; intro w1 h1 h2 h3; rw [kput_ckv] at h1; have H1 := Lib.hid h1; have H2 := Lib.hid h2; clear h1 h2 h3))
      go_roundw
      case rel => exact ⟨k + 1, by go_num, by omega, by rw [← HZ.out k u HU.out]; exact H1.out, HK.out.trans H2.out (fun b hb h => by omega)⟩
      case measure => simp [intOf]; omega
    · obtain rfl : k = n := by omega
      go_wp2_with fail
      go_ret
      exact ⟨_, rfl, Nat.le_refl _, by rw [← HFIN.out]; exact HM.out, HK.out⟩
set_option maxRecDepth 20000 in
theorem ccmp64_spec (x y : Int) (w : World) : Calls Tryz.prog 133 #[.int .i64 x, .int .i64 y] w fun e w' => e = .returned (.int .i64 (sgn x y)) ∧ w = w' := by
  rcases Int.lt_trichotomy x y with h | h | h
  · have hs : sgn x y = -1 := by unfold sgn; rw [if_pos h]
    have HS := Lib.hid hs
    clear hs
    go_enter Tryz.func133, Tryz.ntmps133
    go_wp2_with (first | (((with_reducible refine (cnan64_spec _ _).mono ?_); rintro e w1 ⟨rfl, rfl⟩)))
    go_ret
    exact ⟨by rw [HS.out]; rfl, rfl⟩
  · have hs : sgn x y = 0 := by unfold sgn; rw [if_neg (by omega), if_neg (by omega)]
    have HS := Lib.hid hs
    clear hs
    subst h
    go_enter Tryz.func133, Tryz.ntmps133
    go_wp2_with (first | (((with_reducible refine (cnan64_spec _ _).mono ?_); rintro e w1 ⟨rfl, rfl⟩)))
    go_ret
    exact ⟨by rw [HS.out]; rfl, rfl⟩
  · have hs : sgn x y = 1 := by unfold sgn; rw [if_neg (by omega), if_pos h]
    have HS := Lib.hid hs
    clear hs
    go_enter Tryz.func133, Tryz.ntmps133
    go_wp2_with (first | (((with_reducible refine (cnan64_spec _ _).mono ?_); rintro e w1 ⟨rfl, rfl⟩)))
    go_ret
    exact ⟨by rw [HS.out]; rfl, rfl⟩
set_option maxRecDepth 20000 in
theorem byIDc_spec (x y : Int) (w : World) : Calls Tryz.prog 132 #[nodeV x, nodeV y] w fun e w' => e = .returned (.int .i64 (sgn x y)) ∧ w' = w := by
  go_enter Tryz.func132, Tryz.ntmps132
  go_wp2_with (first
    | (((with_reducible refine (ID_at _ _).mono ?_); rintro e w1 ⟨rfl, rfl⟩))
    | (((with_reducible refine (ccmp64_spec _ _ _).mono ?_); rintro e w1 ⟨rfl, rfl⟩)))
  go_ret
  exact ⟨rfl, rfl⟩
theorem swoI : SWO (ltOf sgn) := swo_of sgn (fun x y => x < y) (fun _ _ => sgn_lt) (fun _ _ _ => Int.lt_trans) (fun x => Int.lt_irrefl x) (fun x y => Int.lt_trichotomy x y)
theorem sortNodes_spec {w : World} {v : Value} {g : Nat} {l : List Int} (h : NRow w v g (l.map nodeV)) (hs : l.Pairwise (· < ·)) (h0 : 0 < l.length) (hl : l.length ≤ 1000000) :
    Calls Tryz.prog 131 #[v, .func (.func 132) #[] #[]] w fun e w' => e = .returned (.tuple #[]) ∧ Row w'.heap.size w' v (l.map nodeV) ∧ Keep (fun b => b = g) w w' := by
  rcases h with ⟨_, h⟩ | ⟨off, cap, rfl, hc, h3, h4, h5⟩
  · have : l = [] := by simpa using h
    subst this; cases h0
  have hH : Holds nodeV w g off l.toArray := fun j hj => by
    have hj' : j < l.length := by simpa using hj
    refine ⟨?_, h5.2 _⟩
    refine hc j _ ?_
    rw [List.getElem?_map, List.getElem?_eq_getElem hj']
    simp [hj']
  have eg : ∀ args w, (callFunc 132 args).run Tryz.prog w = .ok (.enter 132 args) w := enters_of Tryz.func132 (by kernel_rfl) rfl
  have hcmp : CmpLays1 Tryz.prog 132 #[] nodeV sgn g off l.toArray.size w := fun m os dk _ x y =>
    (byIDc_spec x y _).mono (by rintro e w' ⟨rfl, rfl⟩; exact ⟨rfl, 0, #[], by rw [grow_empty]; rfl⟩)
  have hs1 := Tryz.slices_SortFunc_total_f131 nodeV (fun _ => rfl) sgn swoI 132 #[] g off cap l.toArray w eg hcmp hH h5.1 (by simp; omega) (eq_of_ltOf sgn (fun x y => x < y) (fun _ _ => sgn_lt) (fun x y => Int.lt_trichotomy x y))
  rw [show l.toArray.size = (l.map nodeV).length by simp] at hs1
  refine hs1.mono ?_
  rintro e w' ⟨rfl, n, os, rfl⟩
  have hid := msort_id sgn (fun x y => x < y) (fun _ _ => sgn_lt) (fun _ _ _ => Int.lt_trans) (fun x => Int.lt_irrefl x) (fun x y => Int.lt_trichotomy x y) l hs
  rw [hid]
  have hk := keep_sortWorld nodeV w g off n l.toArray os
  refine ⟨rfl, .inr ⟨g, off, cap, rfl, Nat.lt_of_lt_of_le h5.1 hk.size, fun j u hu => ?_, h3, h4⟩, hk⟩
  rw [List.getElem?_map] at hu
  cases hj : l[j]? with
  | none => rw [hj] at hu; cases hu
  | some x =>
    rw [hj] at hu; cases hu
    obtain ⟨hjl, hx⟩ := List.getElem?_eq_some_iff.1 hj
    have hh := holds_sortWorld nodeV w g off n l.toArray l.toArray os h5.1 hH rfl j (by simpa using hjl)
    rw [hh.1]
    simp [hjl, hx]
set_option maxHeartbeats 8000000 in
set_option maxRecDepth 20000 in
theorem byID_spec {w : World} {v : Value} {g : Nat} {l : List Int} (h : NRow w v g (l.map nodeV)) (hs : l.Pairwise (· < ·)) (h0 : 0 < l.length) (hl : l.length ≤ 1000000) :
    Calls Tryz.prog 95 #[v] w fun e w' => e = .returned (.tuple #[]) ∧ Row w'.heap.size w' v (l.map nodeV) ∧ Keep (fun b => b = g) w w' := by
  have hsort := sortNodes_spec h hs h0 hl
  have HS := Lib.hid hsort
  clear hsort h
  go_enter Tryz.func95, Tryz.ntmps95
  go_wp2_with (first | (((with_reducible refine (HS.out).mono ?_); rintro e w1 ⟨rfl, hr, hk⟩); have HR := Lib.hid hr; have HK := Lib.hid hk; clear hr hk))
  go_end0
  exact ⟨rfl, HR.out, HK.out⟩
set_option maxHeartbeats 8000000 in
set_option maxRecDepth 20000 in
theorem lexical_spec {B pb : Nat} {w : World} {G : PG} (hG : Plain B w pb G) (h0 : 0 < G.ids.length) :
    Calls Tryz.prog 46 #[gV pb] w fun e w' => ∃ v, e = .returned v ∧ Row w'.heap.size w' v (G.ids.map nodeV) ∧ (∀ g, v.ownBlock = some g → w.heap.size ≤ g) ∧ Keep (fun _ => False) w w' := by
  have hN := uNodes_spec hG
  have HN := Lib.hid hN
  have hasc := hG.ok.asc
  have hsm := hG.ok.small
  have HASC := Lib.hid hasc
  clear hN hG hasc
  go_enter Tryz.func46, Tryz.ntmps46
  go_wp2_with (first
    | (((with_reducible refine (HN.out).mono ?_); rintro e w1 ⟨it, g1, rfl, hi1, hl1, hg1, hk1⟩); have HI1 := Lib.hid hi1; have HK1 := Lib.hid hk1; clear hi1 hk1)
    | (((with_reducible refine (NodesOf_spec HI1.out).mono ?_); rintro e w2 ⟨v2, rfl, hn2, hk2, hs2⟩); obtain ⟨a2, c2, rfl⟩ : ∃ a c, v2 = .slice a G.ids.length c := (by obtain ⟨a, c, h⟩ := hn2.slice; exact ⟨a, c, by rw [h, List.length_map]⟩); have HN2 := Lib.hid hn2; have HK2 := Lib.hid (HK1.out.trans hk2 (fun b hb h => by omega)); clear hn2 hk2)
    | (((with_reducible refine (byID_spec HN2.out HASC.out h0 (by omega)).mono ?_); rintro e w3 ⟨rfl, hr, hk3⟩); have HR := Lib.hid hr; have HK3 := Lib.hid (HK2.out.trans hk3 (fun b hb h => by omega)); clear hr hk3))
  go_ret
  refine ⟨_, rfl, HR.out, fun g hg => ?_, HK3.out⟩
  rcases HN2.out with ⟨e, _⟩ | ⟨off, cap, e, _⟩
  · rw [e] at hg; cases hg
  · rw [e] at hg; cases hg; exact hg1
end Go.Proofs.YtdaccgelmcmfjaaGreatDoor
end
/- Lists of numbers compared (slices.Compare at []int); rows of several cells, as the sort reads them. -/
section
namespace Go.Proofs.YtdaccgelmcmfjaaGreatDoor
open Go.RowKit Go.V Go.Sort Go.Lib
set_option maxRecDepth 20000 in
theorem cnanI_spec (x : Int) (w : World) : Calls Tryz.prog 122 #[.int .i64 x] w fun e w' => e = .returned (.bool false) ∧ w' = w := by
  go_enter Tryz.func122, Tryz.ntmps122
  go_wp2
  go_ret
  exact ⟨by simp, rfl⟩
set_option maxRecDepth 20000 in
theorem ccmpI_spec (x y : Int) (w : World) : Calls Tryz.prog 75 #[.int .i64 x, .int .i64 y] w fun e w' => e = .returned (.int .i64 (sgn x y)) ∧ w = w' := by
  rcases Int.lt_trichotomy x y with h | h | h
  · have hs : sgn x y = -1 := by unfold sgn; rw [if_pos h]
    have HS := Lib.hid hs
    clear hs
    go_enter Tryz.func75, Tryz.ntmps75
    go_wp2_with (first | (((with_reducible refine (cnanI_spec _ _).mono ?_); rintro e w1 ⟨rfl, rfl⟩)))
    go_ret
    exact ⟨by rw [HS.out]; rfl, rfl⟩
  · have hs : sgn x y = 0 := by unfold sgn; rw [if_neg (by omega), if_neg (by omega)]
    have HS := Lib.hid hs
    clear hs
    subst h
    go_enter Tryz.func75, Tryz.ntmps75
    go_wp2_with (first | (((with_reducible refine (cnanI_spec _ _).mono ?_); rintro e w1 ⟨rfl, rfl⟩)))
    go_ret
    exact ⟨by rw [HS.out]; rfl, rfl⟩
  · have hs : sgn x y = 1 := by unfold sgn; rw [if_neg (by omega), if_pos h]
    have HS := Lib.hid hs
    clear hs
    go_enter Tryz.func75, Tryz.ntmps75
    go_wp2_with (first | (((with_reducible refine (cnanI_spec _ _).mono ?_); rintro e w1 ⟨rfl, rfl⟩)))
    go_ret
    exact ⟨by rw [HS.out]; rfl, rfl⟩
def cmpL : List Int → List Int → Int
  | x :: xs, y :: ys => if sgn x y = 0 then cmpL xs ys else sgn x y
  | _, _ => 0
theorem cmpL_self : ∀ xs, cmpL xs xs = 0
  | [] => rfl
  | x :: xs => by
    unfold cmpL
    rw [if_pos (sgn_zero.2 rfl)]
    exact cmpL_self xs
theorem cmpL_diff : ∀ (k : Nat) (xs ys : List Int) (x y : Int), xs.take k = ys.take k → xs[k]? = some x → ys[k]? = some y → sgn x y ≠ 0 → cmpL xs ys = sgn x y
  | 0, x :: xs, y :: ys, a, b, _, ha, hb, hn => by
    simp at ha hb
    subst ha; subst hb
    unfold cmpL
    rw [if_neg hn]
  | k + 1, x :: xs, y :: ys, a, b, ht, ha, hb, hn => by
    simp only [List.take_succ_cons, List.cons.injEq] at ht
    obtain ⟨rfl, ht⟩ := ht
    unfold cmpL
    rw [if_pos (sgn_zero.2 rfl)]
    exact cmpL_diff k xs ys a b ht (by simpa using ha) (by simpa using hb) hn
  | _, [], _, _, _, _, ha, _, _ => by simp at ha
  | _, _, [], _, _, _, _, hb, _ => by simp at hb
set_option maxHeartbeats 4000000 in
set_option maxRecDepth 20000 in
theorem compare_spec {w : World} {p q n : Nat} {xs ys : List Int} (hx : Cells w p 0 (ints xs)) (hy : Cells w q 0 (ints ys)) (lx : xs.length = n) (ly : ys.length = n) (hn : n ≤ 1000) :
    Calls Tryz.prog 42 #[.slice (some ⟨p, 0, none⟩) n n, .slice (some ⟨q, 0, none⟩) n n] w fun e w' => e = .returned (.int .i64 (cmpL xs ys)) ∧ w = w' := by
  have hcx : ∀ k x, xs[k]? = some x → w.cell? ⟨p, k, none⟩ = some (.int .i64 x) := fun k x h => by have := hx k _ (ints_get h); rwa [Nat.zero_add] at this
  have hcy : ∀ k x, ys[k]? = some x → w.cell? ⟨q, k, none⟩ = some (.int .i64 x) := fun k x h => by have := hy k _ (ints_get h); rwa [Nat.zero_add] at this
  have hex : ∀ k, k < n → ∃ x y, xs[k]? = some x ∧ ys[k]? = some y := fun k hk => ⟨_, _, List.getElem?_eq_getElem (by omega), List.getElem?_eq_getElem (by omega)⟩
  have hall : xs.take n = ys.take n → cmpL xs ys = 0 := fun h => by
    rw [← lx, List.take_length, lx, ← ly, List.take_length] at h
    rw [h]; exact cmpL_self _
  have HCX := Lib.hid hcx
  have HCY := Lib.hid hcy
  have HEX := Lib.hid hex
  have HALL := Lib.hid hall
  clear hcx hcy hex hall hx hy lx ly
  go_enter Tryz.func42, Tryz.ntmps42
  go_wp2_with fail
  go_loop [11] (fun i => ∃ k : Nat, i = .int .i64 (k : Int) ∧ k ≤ n ∧ xs.take k = ys.take k) (fun i => n - (intOf i).toNat)
  case atStart => exact ⟨0, rfl, Nat.zero_le _, rfl⟩
  case round =>
    obtain ⟨k, rfl, hkn, ht⟩ := hrel
    have HT := Lib.hid ht
    clear ht
    by_cases hlt : k < n
    · obtain ⟨x, y, h1, h2⟩ := HEX.out k hlt
      have c0 := HCX.out k x h1
      have c1 := HCY.out k y h2
      have H1 := Lib.hid h1
      have H2 := Lib.hid h2
      clear h1 h2
      by_cases hs : sgn x y = 0
      · have d1 : (sgn x y == 0) = true := by simp [hs]
        have HS := Lib.hid hs
        clear hs
        go_wp2_with (first | (((with_reducible refine (ccmpI_spec _ _ _).mono ?_); rintro e w1 ⟨rfl, rfl⟩)))
        go_round
        case rel =>
          refine ⟨k + 1, by go_num, by omega, ?_⟩
          rw [List.take_add_one, List.take_add_one, HT.out, H1.out, H2.out, sgn_zero.1 HS.out]
        case measure => simp [intOf]; omega
      · have d1 : (sgn x y == 0) = false := by simpa using hs
        have hd := cmpL_diff k xs ys x y HT.out H1.out H2.out hs
        have HD := Lib.hid hd
        clear hs hd
        go_wp2_with (first | (((with_reducible refine (ccmpI_spec _ _ _).mono ?_); rintro e w1 ⟨rfl, rfl⟩)))
        go_ret
        exact ⟨by rw [HD.out]; rfl, rfl⟩
    · obtain rfl : k = n := by omega
      have hz := HALL.out HT.out
      have HZ := Lib.hid hz
      clear hz
      go_wp2_with fail
      go_ret
      exact ⟨by rw [HZ.out]; rfl, rfl⟩
theorem flat_get {α : Type} (enc : α → List Value) (k : Nat) (hk : ∀ x, (enc x).length = k) (h0 : 0 < k) : ∀ (l : List α) (i c : Nat) (x : α), l[i]? = some x → c < k → (l.flatMap enc)[i * k + c]? = (enc x)[c]?
  | [], _, _, _, h, _ => by simp at h
  | a :: l, 0, c, x, h, hc => by
    simp at h; subst h
    rw [List.flatMap_cons, Nat.zero_mul, Nat.zero_add, List.getElem?_append_left (by rw [hk]; exact hc)]
  | a :: l, i + 1, c, x, h, hc => by
    rw [List.flatMap_cons, List.getElem?_append_right (by rw [hk, Nat.succ_mul]; omega), hk, show (i + 1) * k + c - k = i * k + c by rw [Nat.succ_mul]; omega]
    exact flat_get enc k hk h0 l i c x (by simpa using h) hc
theorem flat_length {α : Type} (enc : α → List Value) (k : Nat) (hk : ∀ x, (enc x).length = k) (l : List α) : (l.flatMap enc).length = l.length * k := by
  induction l with
  | nil => simp
  | cons a l ih => rw [List.flatMap_cons, List.length_append, ih, hk, List.length_cons, Nat.succ_mul, Nat.add_comm]
theorem flatK_eq {α : Type} [Inhabited α] (enc : α → List Value) (k : Nat) (hk : ∀ x, (enc x).length = k) (h0 : 0 < k) (l : List α) (j : Nat) (hj : j < l.length * k) : (l.flatMap enc)[j]? = some (flatK enc k l.toArray)[j]! := by
  rw [get_flatK _ _ _ _ (by simpa using hj)]
  have hd : j / k < l.length := Nat.div_lt_of_lt_mul (by rwa [Nat.mul_comm])
  have hm := Nat.mod_lt j h0
  have he : j / k * k + j % k = j := by rw [Nat.mul_comm]; exact Nat.div_add_mod j k
  have := flat_get enc k hk h0 l (j / k) (j % k) l[j / k] (List.getElem?_eq_getElem hd) hm
  rw [he] at this
  rw [this]
  have e1 : l.toArray[j / k]! = l[j / k] := by simp [hd]
  rw [e1, List.getElem?_eq_getElem (by rw [hk]; exact hm)]
  congr 1
  rw [getElem!_pos _ _ (by rw [hk]; exact hm)]
theorem holdsK_of {α : Type} [Inhabited α] (enc : α → List Value) (k : Nat) (hk : ∀ x, (enc x).length = k) (h0 : 0 < k) {w : World} {g : Nat} {l : List α} (hc : Cells w g 0 (l.flatMap enc)) (hf : ∀ i, w.frozen? ⟨g, i, none⟩ = false) : HoldsK enc k w g 0 l.toArray := fun j hj => by
  have hj' : j < l.length * k := by simpa using hj
  refine ⟨?_, hf _⟩
  exact hc j _ (flatK_eq enc k hk h0 l j hj')
theorem cells_of_holdsK {α : Type} [Inhabited α] (enc : α → List Value) (k : Nat) (hk : ∀ x, (enc x).length = k) (h0 : 0 < k) {w : World} {g : Nat} {l : List α} (hH : HoldsK enc k w g 0 l.toArray) : Cells w g 0 (l.flatMap enc) := fun j u hu => by
  have hj : j < l.length * k := by rw [← flat_length enc k hk]; exact (List.getElem?_eq_some_iff.1 hu).1
  have h1 := (hH j (by simpa using hj)).1
  rw [flatK_eq enc k hk h0 l j hj] at hu
  cases hu
  exact h1
theorem holdsK_sorted {α : Type} [Inhabited α] (enc : α → List Value) (k : Nat) {w : World} {g n : Nat} {d d' : Array α} {os : Array Obj} (hg : g < w.heap.size) (hH : HoldsK enc k w g 0 d) (hs : d'.size = d.size) : HoldsK enc k (sortWorldK enc k w g 0 n d' os) g 0 d' := by
  unfold sortWorldK
  refine holdsK_grow _ _ _ _ _ _ _ ?_ (holdsK_putRowK _ _ _ _ _ d d' (holdsK_ahead _ _ _ _ _ _ _ hH) hs)
  simpa [putRowK, Sort.ahead] using hg
end Go.Proofs.YtdaccgelmcmfjaaGreatDoor
end
/- The comparisons that the sorts of colours, pairs and edges call. -/
section
namespace Go.Proofs.YtdaccgelmcmfjaaGreatDoor
open Go.RowKit Go.V Go.Sort Go.Lib
theorem grow4 (W : World) (a b c d : Obj) : (((W.alloc a).alloc b).alloc c).alloc d = grow W #[a, b, c, d] := by simp [alloc_eq_grow, grow_grow]
theorem at4 (W : World) (a b c d : Obj) : ((((W.alloc a).alloc b).alloc c).alloc d).heap[W.heap.size]? = some a ∧ ((((W.alloc a).alloc b).alloc c).alloc d).heap[W.heap.size + 1]? = some b ∧ ((((W.alloc a).alloc b).alloc c).alloc d).heap[W.heap.size + 2]? = some c ∧ ((((W.alloc a).alloc b).alloc c).alloc d).heap[W.heap.size + 3]? = some d := by
  refine ⟨?_, ?_, ?_, ?_⟩
  · exact (heap_old (w := ((W.alloc a).alloc b).alloc c) (by simp <;> omega)).trans ((heap_old (w := (W.alloc a).alloc b) (by simp <;> omega)).trans ((heap_old (w := W.alloc a) (by simp)).trans (heap_new W a)))
  · exact (heap_old (w := ((W.alloc a).alloc b).alloc c) (by simp <;> omega)).trans ((heap_old (w := (W.alloc a).alloc b) (by simp)).trans (new_at' (X := W.alloc a) (by simp) b))
  · exact (heap_old (w := ((W.alloc a).alloc b).alloc c) (by simp)).trans (new_at' (X := (W.alloc a).alloc b) (by simp) c)
  · exact new_at' (X := ((W.alloc a).alloc b).alloc c) (by simp) d
theorem cells_ints {W : World} {b : Nat} {xs : List Int} {t : TypeId} {cs : Array Value} (h : W.heap[b]? = some (.cells cs t (0, 0))) (e : cs.toList = ints xs) : Cells W b 0 (ints xs) := by rw [← e]; exact Cells.of_heap h
set_option maxHeartbeats 4000000 in
set_option maxRecDepth 20000 in
theorem colorsC_spec (a c b d : Int) (W : World) : Calls Tryz.prog 60 #[.agg #[.int .i64 a, .int .i64 c], .agg #[.int .i64 b, .int .i64 d]] W fun e w' => e = .returned (.int .i64 (sgn a b)) ∧ ∃ os', w' = grow W os' := by
  have h4 := at4 W (.cells #[.int .i64 a, .int .i64 c] 107 (0, 0)) (.cells #[.int .i64 b, .int .i64 d] 107 (0, 0)) (.cells #[.int .i64 a] 3 (0, 0)) (.cells #[.int .i64 b] 3 (0, 0))
  have hcmp := compare_spec (n := 1) (cells_ints (xs := [a]) h4.2.2.1 rfl) (cells_ints (xs := [b]) h4.2.2.2 rfl) rfl rfl (by decide)
  have hl : cmpL [a] [b] = sgn a b := by simp [cmpL]; intro h; exact h.symm
  have HC := Lib.hid hcmp
  have HL := Lib.hid hl
  clear h4 hcmp hl
  go_enter Tryz.func60, Tryz.ntmps60
  go_wp2_with (first | (((with_reducible refine (HC.out).mono ?_); rintro e w1 ⟨rfl, rfl⟩)))
  go_ret
  exact ⟨by rw [HL.out]; rfl, _, grow4 ..⟩
set_option maxHeartbeats 4000000 in
set_option maxRecDepth 20000 in
theorem pairBefore_spec (p q : Int × Int) (W : World) : Calls Tryz.prog 22 #[.agg #[.int .i64 p.1, .int .i64 p.2], .agg #[.int .i64 q.1, .int .i64 q.2]] W fun e w' => e = .returned (.int .i64 (pcmp p q)) ∧ ∃ os', w' = grow W os' := by
  have h4 := at4 W (.cells #[.int .i64 p.1, .int .i64 p.2] 47 (0, 0)) (.cells #[.int .i64 q.1, .int .i64 q.2] 47 (0, 0)) (.cells #[.int .i64 p.1, .int .i64 p.2] 3 (0, 0)) (.cells #[.int .i64 q.1, .int .i64 q.2] 3 (0, 0))
  have hcmp := compare_spec (n := 2) (cells_ints (xs := [p.1, p.2]) h4.2.2.1 rfl) (cells_ints (xs := [q.1, q.2]) h4.2.2.2 rfl) rfl rfl (by decide)
  have hl : cmpL [p.1, p.2] [q.1, q.2] = pcmp p q := by
    simp only [cmpL, pcmp]
    split
    · split
      · rename_i h; exact h.symm
      · rfl
    · rfl
  have HC := Lib.hid hcmp
  have HL := Lib.hid hl
  clear h4 hcmp hl
  go_enter Tryz.func22, Tryz.ntmps22
  go_wp2_with (first | (((with_reducible refine (HC.out).mono ?_); rintro e w1 ⟨rfl, rfl⟩)))
  go_ret
  exact ⟨by rw [HL.out]; rfl, _, grow4 ..⟩
abbrev pairA (p : Int × Int) : List Value := [.int .i64 p.1, .int .i64 p.2]
abbrev linkA (l : Lnk) : List Value := [.int .i64 l.1.1, .int .i64 l.1.2, .int .i64 l.2.1, .int .i64 l.2.2]
theorem keep_grow (W : World) (os : Array Obj) : Keep (fun _ => False) W (grow W os) :=
  ⟨rfl, rfl, rfl, by simp [grow], fun k hk _ => by show (W.heap ++ os)[k]? = _; rw [Array.getElem?_append_left hk]⟩
theorem grow2 (W : World) (a b : Obj) (o : Array Obj) : grow ((W.alloc a).alloc b) o = grow W (#[a, b] ++ o) := by simp [alloc_eq_grow, grow_grow]
theorem grow3 (W : World) (a b : Obj) (o o' : Array Obj) : grow (grow ((W.alloc a).alloc b) o) o' = grow W (#[a, b] ++ o ++ o') := by rw [grow2, grow_grow]
theorem link_cells {W w1 : World} {l m : Lnk} (hk : Keep (fun _ => False) ((W.alloc (.cells (linkA l).toArray 49 (0, 0))).alloc (.cells (linkA m).toArray 49 (0, 0))) w1) :
    (w1.cell? ⟨W.heap.size, 2, none⟩ = some (.int .i64 l.2.1) ∧ w1.cell? ⟨W.heap.size, 3, none⟩ = some (.int .i64 l.2.2)) ∧ w1.cell? ⟨W.heap.size + 1, 2, none⟩ = some (.int .i64 m.2.1) ∧ w1.cell? ⟨W.heap.size + 1, 3, none⟩ = some (.int .i64 m.2.2) := by
  have h1 := hk.get (b := W.heap.size) ((heap_old (by simp)).trans (heap_new W _)) (fun h => h)
  have h2 := hk.get (b := W.heap.size + 1) (new_at' (by simp) _) (fun h => h)
  refine ⟨⟨?_, ?_⟩, ?_, ?_⟩
  · rw [cell_of h1]; rfl
  · rw [cell_of h1]; rfl
  · rw [cell_of h2]; rfl
  · rw [cell_of h2]; rfl
set_option maxHeartbeats 4000000 in
set_option maxRecDepth 20000 in
theorem linkC_spec (l m : Lnk) (W : World) : Calls Tryz.prog 25 #[.agg (linkA l).toArray, .agg (linkA m).toArray] W fun e w' => e = .returned (.int .i64 (lcmp l m)) ∧ ∃ os', w' = grow W os' := by
  have hp : ∀ (p q : Int × Int) (W : World), Calls Tryz.prog 22 #[.agg #[.int .i64 p.1, .int .i64 p.2], .agg #[.int .i64 q.1, .int .i64 q.2]] W fun e w' => e = .returned (.int .i64 (pcmp p q)) ∧ ∃ os', w' = grow W os' := fun p q W => pairBefore_spec p q W
  have HP := Lib.hid hp
  clear hp
  by_cases h : pcmp l.1 m.1 = 0
  · have d1 : (pcmp l.1 m.1 != 0) = false := by simp [h]
    have hl : lcmp l m = pcmp l.2 m.2 := by unfold lcmp; rw [if_pos h]
    have HL := Lib.hid hl
    clear h hl
    go_enter Tryz.func25, Tryz.ntmps25
    go_wp2_with (first
      | (((with_reducible refine (HP.out l.1 m.1 _).mono ?_); rintro e w1 ⟨rfl, o1, hw⟩); obtain ⟨⟨x1, x2⟩, x3, x4⟩ := link_cells (W := W) (l := l) (m := m) (w1 := w1) (by rw [hw]; exact keep_grow _ o1); have HW := Lib.hid hw; clear hw)
      | (((with_reducible refine (HP.out l.2 m.2 _).mono ?_); rintro e w2 ⟨rfl, o2, rfl⟩)))
    go_ret
    exact ⟨by rw [HL.out]; rfl, _, by rw [HW.out]; exact grow3 ..⟩
  · have d1 : (pcmp l.1 m.1 != 0) = true := by simpa using h
    have hl : lcmp l m = pcmp l.1 m.1 := by unfold lcmp; rw [if_neg h]
    have HL := Lib.hid hl
    clear h hl
    go_enter Tryz.func25, Tryz.ntmps25
    go_wp2_with (first
      | (((with_reducible refine (HP.out l.1 m.1 _).mono ?_); rintro e w1 ⟨rfl, o1, rfl⟩)))
    go_ret
    exact ⟨by rw [HL.out]; rfl, _, grow2 ..⟩
/-! ## The three sorts -/
theorem swoC : SWO (ltOf fun (x y : Int × Int) => sgn x.1 y.1) where
  irrefl x := swoI.irrefl x.1
  trans x y z h1 h2 := swoI.trans x.1 y.1 z.1 h1 h2
  ntrans x y z h1 h2 := swoI.ntrans x.1 y.1 z.1 h1 h2
theorem sortColors_spec {w : World} {g cap n : Nat} {l : List (Int × Int)} (hc : Cells w g 0 (l.flatMap pairA)) (hf : ∀ i, w.frozen? ⟨g, i, none⟩ = false) (hg : g < w.heap.size) (hn : l.length = n) (hl : n ≤ 1000000) :
    Calls Tryz.prog 59 #[.slice (some ⟨g, 0, none⟩) n cap, .func (.func 60) #[] #[]] w fun e w' => e = .returned (.tuple #[]) ∧ Keep (fun b => b = g) w w' := by
  have eg : ∀ args w, (callFunc 60 args).run Tryz.prog w = .ok (.enter 60 args) w := enters_of Tryz.func60 (by kernel_rfl) rfl
  have hcmp : CmpLays Tryz.prog 60 #[] pairA 2 (fun x y => sgn x.1 y.1) g 0 l.toArray.size w := fun m os dk _ x y =>
    (colorsC_spec x.1 x.2 y.1 y.2 _).mono (by rintro e w' ⟨rfl, os', rfl⟩; exact ⟨rfl, 0, os', rfl⟩)
  have hs1 := Tryz.slices_SortFunc_f59 2 (fun _ => by kernel_rfl) (fun _ => by kernel_rfl) pairA (fun _ => rfl) (fun x v hv => by simp at hv; rcases hv with rfl | rfl <;> rfl) (fun x y => sgn x.1 y.1) swoC 60 #[] g 0 cap l.toArray w eg hcmp (holdsK_of pairA 2 (fun _ => rfl) (by decide) hc hf) hg (by simp; omega)
  rw [show l.toArray.size = n by simpa using hn] at hs1
  refine hs1.mono ?_
  rintro e w' ⟨rfl, d', k, os, _, _, rfl⟩
  exact ⟨rfl, keep_sortWorldK ..⟩
theorem swoP : SWO (ltOf pcmp) := swo_of pcmp plt (fun _ _ => pcmp_lt) (fun _ _ _ => plt_trans) plt_irrefl plt_total
theorem swoL : SWO (ltOf lcmp) := swo_of lcmp llt (fun _ _ => lcmp_lt) (fun _ _ _ => llt_trans) llt_irrefl llt_total
theorem sortPairs_spec {w : World} {g cap n : Nat} {l : List (Int × Int)} (hc : Cells w g 0 (l.flatMap pairA)) (hf : ∀ i, w.frozen? ⟨g, i, none⟩ = false) (hg : g < w.heap.size) (hn : l.length = n) (hl : n ≤ 1000000) (hs : l.Pairwise plt) :
    Calls Tryz.prog 23 #[.slice (some ⟨g, 0, none⟩) n cap, .func (.func 22) #[] #[]] w fun e w' => e = .returned (.tuple #[]) ∧ Cells w' g 0 (l.flatMap pairA) ∧ Keep (fun b => b = g) w w' := by
  have eg : ∀ args w, (callFunc 22 args).run Tryz.prog w = .ok (.enter 22 args) w := enters_of Tryz.func22 (by kernel_rfl) rfl
  have hcmp : CmpLays Tryz.prog 22 #[] pairA 2 pcmp g 0 l.toArray.size w := fun m os dk _ x y =>
    (pairBefore_spec x y _).mono (by rintro e w' ⟨rfl, os', rfl⟩; exact ⟨rfl, 0, os', rfl⟩)
  have hH := holdsK_of pairA 2 (fun _ => rfl) (by decide) hc hf
  have hs1 := Tryz.slices_SortFunc_total_f23 2 (fun _ => by kernel_rfl) (fun _ => by kernel_rfl) pairA (fun _ => rfl) (fun x v hv => by simp at hv; rcases hv with rfl | rfl <;> rfl) pcmp swoP 22 #[] g 0 cap l.toArray w eg hcmp hH hg (by simp; omega) (eq_of_ltOf pcmp plt (fun _ _ => pcmp_lt) plt_total)
  rw [show l.toArray.size = n by simpa using hn] at hs1
  refine hs1.mono ?_
  rintro e w' ⟨rfl, k, os, rfl⟩
  have hid := msort_id pcmp plt (fun _ _ => pcmp_lt) (fun _ _ _ => plt_trans) plt_irrefl plt_total l hs
  rw [hid]
  exact ⟨rfl, cells_of_holdsK pairA 2 (fun _ => rfl) (by decide) (holdsK_sorted pairA 2 hg hH rfl), keep_sortWorldK ..⟩
end Go.Proofs.YtdaccgelmcmfjaaGreatDoor
end
