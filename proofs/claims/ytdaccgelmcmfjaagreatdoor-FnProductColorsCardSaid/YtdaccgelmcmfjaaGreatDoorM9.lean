/- The iterators that the graph hands out. -/
import Derived.Test.YtdaccgelmcmfjaaGreatDoorJM7
set_option linter.all false
namespace Go.Proofs.YtdaccgelmcmfjaaGreatDoor
open Go.RowKit Go.V
set_option maxRecDepth 20000 in
theorem NewOrd_spec (v : Value) (h1 : v.oneCell' = true) (w : World) :
    Calls Tryz.prog 192 #[v] w fun e w' => e = .returned (.pointer (some ⟨w.heap.size, 0, none⟩)) ∧ w' = w.alloc (.cells #[.int .i64 (-1), v] 303 (0, 0)) := by
  cases v <;> first | (simp [Value.oneCell'] at h1; done) | skip
  all_goals
    go_enter Tryz.func192, Tryz.ntmps192
    go_wp2
    go_ret
    exact ⟨rfl, rfl⟩
theorem Iter.made {B : Nat} {w : World} {g n cap : Nat} {xs : List Value} (h : w.ownsRow B 66 1 (.slice (some ⟨g, 0, none⟩) n cap) n xs) :
    Iter (w.alloc (.cells #[.int .i64 (-1), .slice (some ⟨g, 0, none⟩) n cap] 303 (0, 0))) w.heap.size g xs 0 := by
  obtain ⟨hl, h | ⟨g', cap', cur, hv, hb, hh, h1, h2, h3, h4⟩⟩ := h
  · cases h.1
  cases hv
  have hlt := lt_of_get hh
  rw [Nat.mul_one] at hl h4
  refine ⟨0, cap, ?_, ?_, by omega, by omega, h2, by simp; omega, fun i => free_of (by rw [heap_old hlt]; exact hh) i⟩
  · rw [hl]; exact heap_new w _
  · intro j u hu
    rw [Nat.zero_add, cell_of (by rw [heap_old hlt]; exact hh)]
    rw [← h4, List.getElem?_take] at hu
    split at hu
    · simpa using hu
    · cases hu
set_option maxRecDepth 20000 in
theorem all_spec {B : Nat} {w : World} {pb : Nat} {G : PG} (h : Plain B w pb G) :
    Calls Tryz.prog 265 #[pV pb] w fun e w' => ∃ it g, e = .returned (.iface 284 (.pointer (some ⟨it, 0, none⟩))) ∧ Iter w' it g (G.ids.map nodeV) 0 ∧ w.heap.size ≤ it ∧ w.heap.size ≤ g ∧ Keep (fun _ => False) w w' := by
  obtain ⟨ho, iv, ov, nv, rows, h1, h2, h3, h4, h5, h6⟩ := h
  have hlen := ho.small
  have hcell : ∃ a cap, iv = .slice a G.ids.length cap ∧ ∀ k, k < G.ids.length → ∃ ib off id, a = some ⟨ib, off, none⟩ ∧ G.ids[k]? = some id ∧ ∀ W, Keep (fun _ => False) w W → W.cell? ⟨ib, off + k, none⟩ = some (.int .i64 id) := by
    rcases h3 with ⟨rfl, hu⟩ | ⟨ib, off, cap, rfl, hB, hc, hl, hm⟩
    · have : G.ids = [] := by simpa [ints] using hu
      rw [this]
      exact ⟨none, 0, rfl, fun k hk => by cases hk⟩
    · rw [ints_length]
      refine ⟨_, cap, rfl, fun k hk => ⟨ib, off, _, rfl, List.getElem?_eq_getElem hk, fun W hk' => ?_⟩⟩
      have := hc k _ (ints_get (List.getElem?_eq_getElem hk))
      rw [hk'.cell (a := ⟨ib, off + k, none⟩) (World.block_lt_of_cell? _ _ this) (fun h => h)]; exact this
  obtain ⟨a, cap, rfl, hcell⟩ := hcell
  have hpc : ∀ W, Keep (fun _ => False) w W → W.cell? ⟨pb, 0, none⟩ = some (.slice a G.ids.length cap) := fun W hk => by
    rw [hk.cell (a := ⟨pb, 0, none⟩) (lt_of_get h1) (fun h => h), cell_of h1]; rfl
  have c0 := hpc w (Keep.refl _ _)
  have hfin : ∀ W v g cap, W.ownsRow w.heap.size 66 1 v G.ids.length ((G.ids.take G.ids.length).map nodeV) → Keep (fun _ => False) w W → v = .slice (some ⟨g, 0, none⟩) G.ids.length cap →
      ∃ it g, Ending.returned (.iface 284 (.pointer (some ⟨W.heap.size, 0, none⟩))) = Ending.returned (.iface 284 (.pointer (some ⟨it, 0, none⟩))) ∧ Iter (W.alloc (.cells #[.int .i64 (-1), v] 303 (0, 0))) it g (G.ids.map nodeV) 0 ∧ w.heap.size ≤ it ∧ w.heap.size ≤ g ∧ Keep (fun _ => False) w (W.alloc (.cells #[.int .i64 (-1), v] 303 (0, 0))) := by
    intro W v g cap h1 h2 h3
    subst h3
    rw [List.take_length] at h1
    refine ⟨_, g, rfl, Iter.made h1, h2.size, ?_, h2.alloc _⟩
    obtain ⟨_, h | ⟨g', cap', cur, hv, hb, _⟩⟩ := h1
    · cases h.1
    · cases hv; exact hb
  have HC := Lib.hid hcell
  have HP := Lib.hid hpc
  have HF := Lib.hid hfin
  have hta : ∀ k id, G.ids[k]? = some id → (G.ids.take k).map nodeV ++ [nodeV id] = (G.ids.take (k + 1)).map nodeV := fun k id hk => by
    rw [List.take_add_one, hk]; simp
  have HT := Lib.hid hta
  generalize hn : G.ids.length = n at *
  clear hcell hpc hfin hta h1 h3 h4 h5 h6 ho hn
  go_enter Tryz.func265, Tryz.ntmps265
  go_wp2_with (first
    | (at_make; refine wpList_make0 rfl _ _ _ rfl (Keep.refl (fun _ => False) w) infoNode Tryz.underlying61 .i64 .i64 _ n rfl rfl rfl (by omega) (by unfold maxLen; omega) ?_; intro w1 hrow hk1 hlt; have c1 := HP.out _ hk1))
  have HROW0 := Lib.hid hrow
  have HK1 := Lib.hid hk1
  clear hrow hk1
  go_loopw [3, 17] (fun v i wr => ∃ k g cap, i = .int .i64 ((k : Nat) : Int) ∧ k ≤ n ∧ v = .slice (some ⟨g, 0, none⟩) k cap ∧ wr.ownsRow w.heap.size 66 1 v k ((G.ids.take k).map nodeV) ∧ Keep (fun _ => False) w wr) (fun _ i _ => n - (intOf i).toNat)
  case atStart => exact ⟨0, _, _, rfl, Nat.zero_le _, rfl, HROW0.out, HK1.out⟩
  case round =>
    obtain ⟨k, g, cap', rfl, hkn, rfl, hrow, hkw⟩ := hrel
    have HROW := Lib.hid hrow
    have HKW := Lib.hid hkw
    clear hrow hkw
    by_cases hlt2 : k < n
    · obtain ⟨ib, off, id, rfl, hid, hcc⟩ := HC.out k hlt2
      have c2 := hcc wr HKW.out
      have HCC := Lib.hid hcc
      have HID := Lib.hid hid
      clear hcc hid
      go_wp2_with (first
        | (at_builtin; refine wpList_push rfl rfl HKW.out (by repeat first | exact Keep.refl _ _ | assumption | apply Keep.alloc | apply Keep.drewN | apply Keep.drew | (refine Keep.setCell ?_ _ (fun h => absurd h (Nat.lt_irrefl _)))) infoNode Tryz.underlying61 rfl (by decide) _ k _ rfl HROW.out _ 1 1 [nodeV id] rfl rfl (World.news_of_block (heap_new wr _)) (by simp [Value.oneCell']) (by decide) (by unfold maxLen; omega) (by omega) ?_; intro g2 cap2 w2 hr2 hk2 hg2 hl2))
      go_roundw
      case rel => exact ⟨k + 1, g2, cap2, by go_num, by omega, rfl, (by rw [← HT.out k id HID.out]; exact hr2), hk2⟩
      case measure => simp [intOf]; omega
    · obtain rfl : k = n := by omega
      go_wp2_with (first
        | (((with_reducible refine (NewOrd_spec _ rfl _).mono ?_); rintro e w3 ⟨rfl, rfl⟩)))
      go_ret
      exact HF.out wr _ _ _ HROW.out HKW.out rfl
def PG.ends (G : PG) (l : List Arc) : List Int := l.map fun a => G.ids.getD a.1 0
def PG.nbr (G : PG) (i : Nat) : List Int := G.ends (G.out.getD i [])
set_option maxRecDepth 20000 in
theorem ends_spec {B : Nat} {w : World} {pb : Nat} {G : PG} (h : Plain B w pb G) {lv : Value} {l : List Arc} (hl : ArcRow w lv l) (hlen2 : l.length ≤ 1000) (hlr : ∀ a ∈ l, a.1 < G.ids.length) :
    Calls Tryz.prog 263 #[pV pb, lv] w fun e w' => ∃ it g, e = .returned (.iface 284 (.pointer (some ⟨it, 0, none⟩))) ∧ Iter w' it g ((G.ends l).map nodeV) 0 ∧ w.heap.size ≤ it ∧ w.heap.size ≤ g ∧ Keep (fun _ => False) w w' := by
  obtain ⟨ho, iv, ov, nv, rows, h1, h2, h3, h4, h5, h6⟩ := h
  have hlen := ho.small
  have hrow : ∃ a cap, lv = .slice a l.length cap ∧ ∀ k, k < l.length → ∃ b off x f id ib ioff icap, a = some ⟨b, off, none⟩ ∧ l[k]? = some (x, f) ∧ G.ids.getD x 0 = id ∧ x < G.ids.length ∧ iv = .slice (some ⟨ib, ioff, none⟩) G.ids.length icap ∧
      ∀ W, Keep (fun _ => False) w W → W.cell? ⟨b, off + k * 2, none⟩ = some (.int .i64 (x : Int)) ∧ W.cell? ⟨b, off + k * 2 + 1, none⟩ = some (.float .f64 f) ∧ W.cell? ⟨ib, ioff + x, none⟩ = some (.int .i64 id) := by
    rcases hl.form with ⟨rfl, rfl⟩ | ⟨b, cap, rfl, hg, hc1, hc2⟩
    · exact ⟨none, 0, rfl, fun k hk => by cases hk⟩
    · refine ⟨_, cap, rfl, fun k hk => ?_⟩
      have hkk : l[k]? = some l[k] := List.getElem?_eq_getElem hk
      have hx := hlr _ (List.getElem_mem hk)
      rcases h3 with ⟨rfl, hu⟩ | ⟨ib, ioff, icap, rfl, hB, hc, hl', hm⟩
      · have : G.ids = [] := by simpa [ints] using hu
        rw [this] at hx; cases hx
      refine ⟨b, 0, l[k].1, l[k].2, _, ib, ioff, icap, rfl, hkk, rfl, hx, by rw [ints_length], fun W hk' => ?_⟩
      have hA := (hl.keep hk' (fun _ _ h => h)).cell hkk
      have hI := hc l[k].1 _ (ints_get (List.getElem?_eq_getElem hx))
      rw [Nat.zero_add]
      refine ⟨hA.1, hA.2.1, ?_⟩
      rw [hk'.cell (a := ⟨ib, ioff + l[k].1, none⟩) (World.block_lt_of_cell? _ _ hI) (fun h => h), hI, List.getD_eq_getElem?_getD, List.getElem?_eq_getElem hx]; rfl
  obtain ⟨a, cap, rfl, hcell⟩ := hrow
  have hpc : ∀ W, Keep (fun _ => False) w W → W.cell? ⟨pb, 0, none⟩ = some iv := fun W hk => by
    rw [hk.cell (a := ⟨pb, 0, none⟩) (lt_of_get h1) (fun h => h), cell_of h1]; rfl
  have hfin : ∀ W v g cap, W.ownsRow w.heap.size 66 1 v l.length ((G.ends (l.take l.length)).map nodeV) → Keep (fun _ => False) w W → v = .slice (some ⟨g, 0, none⟩) l.length cap →
      ∃ it g, Ending.returned (.iface 284 (.pointer (some ⟨W.heap.size, 0, none⟩))) = Ending.returned (.iface 284 (.pointer (some ⟨it, 0, none⟩))) ∧ Iter (W.alloc (.cells #[.int .i64 (-1), v] 303 (0, 0))) it g ((G.ends l).map nodeV) 0 ∧ w.heap.size ≤ it ∧ w.heap.size ≤ g ∧ Keep (fun _ => False) w (W.alloc (.cells #[.int .i64 (-1), v] 303 (0, 0))) := by
    intro W v g cap h1 h2 h3
    subst h3
    rw [List.take_length] at h1
    refine ⟨_, g, rfl, Iter.made h1, h2.size, ?_, h2.alloc _⟩
    obtain ⟨_, h | ⟨g', cap', cur, hv, hb, _⟩⟩ := h1
    · cases h.1
    · cases hv; exact hb
  have HC := Lib.hid hcell
  have HP := Lib.hid hpc
  have HF := Lib.hid hfin
  have hta : ∀ k x f id, l[k]? = some (x, f) → G.ids.getD x 0 = id → (G.ends (l.take k)).map nodeV ++ [nodeV id] = (G.ends (l.take (k + 1))).map nodeV := fun k x f id hk hid => by
    rw [List.take_add_one, hk]; simp [PG.ends, ← hid]
  have HT := Lib.hid hta
  have hsf := storeF
  generalize hn : l.length = n at *
  generalize hm : G.ids.length = m at *
  have HLN := Lib.hid hn
  have HLM := Lib.hid hm
  clear hcell hpc hfin hta h1 h3 h4 h5 h6 ho hn hl hlr hm
  go_enter Tryz.func263, Tryz.ntmps263
  go_wp2_with (first
    | (at_make; refine wpList_make0 rfl _ _ _ rfl (Keep.refl (fun _ => False) w) infoNode Tryz.underlying61 .i64 .i64 _ n rfl rfl rfl (by omega) (by unfold maxLen; omega) ?_; intro w1 hrow hk1 hlt))
  have HROW0 := Lib.hid hrow
  have HK1 := Lib.hid hk1
  clear hrow hk1
  go_loopw [5, 13] (fun v i wr => ∃ k g cap, i = .int .i64 ((k : Nat) : Int) ∧ k ≤ n ∧ v = .slice (some ⟨g, 0, none⟩) k cap ∧ wr.ownsRow w.heap.size 66 1 v k ((G.ends (l.take k)).map nodeV) ∧ Keep (fun _ => False) w wr) (fun _ i _ => n - (intOf i).toNat)
  case atStart => exact ⟨0, _, _, rfl, Nat.zero_le _, rfl, HROW0.out, HK1.out⟩
  case round =>
    obtain ⟨k, g, cap', rfl, hkn, rfl, hrow, hkw⟩ := hrel
    have HROW := Lib.hid hrow
    have HKW := Lib.hid hkw
    clear hrow hkw
    by_cases hlt2 : k < n
    · obtain ⟨b, off, x, f, id, ib, ioff, icap, rfl, hid, hid2, hxm, rfl, hcc⟩ := HC.out k hlt2
      obtain ⟨c2, c3, _⟩ := hcc wr HKW.out
      have c4 := fun o => (hcc (wr.alloc o) (by repeat first | exact Keep.refl _ _ | assumption | apply Keep.alloc | apply Keep.drewN | apply Keep.drew | (refine Keep.setCell ?_ _ (fun h => absurd h (Nat.lt_irrefl _))))).2.2
      have c5 := fun o => HP.out (wr.alloc o) (by repeat first | exact Keep.refl _ _ | assumption | apply Keep.alloc | apply Keep.drewN | apply Keep.drew | (refine Keep.setCell ?_ _ (fun h => absurd h (Nat.lt_irrefl _))))
      have d1 : (0 : Int) ≤ (x : Int) := by omega
      have d2 : (x : Int) < (m : Int) := by omega
      have HCC := Lib.hid hcc
      have HID := Lib.hid hid
      have HID2 := Lib.hid hid2
      clear hcc hid hid2
      go_wp2_with fail
      go_region_law ((refine step_push (by rfl) (by rfl) HKW.out (by repeat first | exact Keep.refl _ _ | assumption | apply Keep.alloc | apply Keep.drewN | apply Keep.drew | (refine Keep.setCell ?_ _ (fun h => absurd h (Nat.lt_irrefl _)))) infoNode Tryz.underlying61 (by rfl) (by decide) _ k _ (by simp [Act.eval, Act.put]) HROW.out ⟨(wr.alloc (.cells #[.int .i64 (x : Int), .float .f64 f] 257 (0, 0))).heap.size, 0, none⟩ 1 1 [nodeV id] (by simp [Act.eval, Act.put]) (by rfl) (World.news_of_block (heap_new _ _)) (by simp [Value.oneCell']) (by decide) (by unfold maxLen; omega) (by omega) ?_; intro g2 cap2 w2 hr2 hk2 hg2 hl2))
      all_goals go_wp2
      all_goals exact ⟨⟨k + 1, g2, cap2, by go_num, by omega, rfl, (by rw [← HT.out k x f id HID.out HID2.out]; exact hr2), hk2⟩, by simp [intOf]; omega⟩
    · obtain rfl : k = n := by omega
      go_wp2_with (first
        | (((with_reducible refine (NewOrd_spec _ rfl _).mono ?_); rintro e w3 ⟨rfl, rfl⟩)))
      go_ret
      exact HF.out wr _ _ _ HROW.out HKW.out rfl
set_option maxRecDepth 20000 in
theorem uNodes_spec {B : Nat} {w : World} {pb : Nat} {G : PG} (h : Plain B w pb G) :
    Calls Tryz.prog 260 #[uV pb] w fun e w' => ∃ it g, e = .returned (.iface 284 (.pointer (some ⟨it, 0, none⟩))) ∧ Iter w' it g (G.ids.map nodeV) 0 ∧ w.heap.size ≤ it ∧ w.heap.size ≤ g ∧ Keep (fun _ => False) w w' := by
  have hf : ∀ W, Keep (fun _ => False) w W → Calls Tryz.prog 265 #[pV pb] W fun e w' => ∃ it g, e = .returned (.iface 284 (.pointer (some ⟨it, 0, none⟩))) ∧ Iter w' it g (G.ids.map nodeV) 0 ∧ w.heap.size ≤ it ∧ w.heap.size ≤ g ∧ Keep (fun _ => False) w w' := fun W hk =>
    (all_spec (h.keepF hk)).mono (by rintro e w' ⟨it, g, a1, a2, a3, a4, a5⟩; exact ⟨it, g, a1, a2, Nat.le_trans hk.size a3, Nat.le_trans hk.size a4, hk.trans a5 (fun _ _ h => h)⟩)
  have HF := Lib.hid hf
  clear hf h
  go_enter Tryz.func260, Tryz.ntmps260
  go_wp2_with (first | (((with_reducible refine (HF.out _ (by repeat first | exact Keep.refl _ _ | assumption | apply Keep.alloc | apply Keep.drewN | apply Keep.drew | (refine Keep.setCell ?_ _ (fun h => absurd h (Nat.lt_irrefl _))))).mono ?_); rintro e w1 ⟨it, g, rfl, a2, a3, a4, a5⟩)))
  go_ret
  exact ⟨it, g, rfl, a2, a3, a4, a5⟩
set_option maxRecDepth 20000 in
theorem uFrom_spec {B : Nat} {w : World} {pb : Nat} {G : PG} (h : Plain B w pb G) {i : Nat} {id : Int} (hid : G.ids[i]? = some id) :
    Calls Tryz.prog 257 #[uV pb, .int .i64 id] w fun e w' => ∃ it g, e = .returned (.iface 284 (.pointer (some ⟨it, 0, none⟩))) ∧ Iter w' it g ((G.nbr i).map nodeV) 0 ∧ w.heap.size ≤ it ∧ w.heap.size ≤ g ∧ Keep (fun _ => False) w w' := by
  have hin := (List.getElem?_eq_some_iff.1 hid).1
  have hix : ∀ W, Keep (fun _ => False) w W → Calls Tryz.prog 73 #[pV pb, .int .i64 id] W fun e w' => e = .returned (.tuple #[.int .i64 (i : Int), .bool true]) ∧ ∃ n, w' = W.drewN n := fun W hk =>
    (index_spec (h.keepF hk) id).mono (by
      rintro e w' ⟨j, b, rfl, h1, h2, h3⟩
      cases b
      · exact absurd (List.mem_of_getElem? hid) (h2 rfl)
      · obtain rfl := h.ok.inj (h1 rfl) hid; exact ⟨rfl, h3⟩)
  obtain ⟨row, ob, off, cap, hcc, hrow, hl1, hl2⟩ : ∃ row ob off cap, (∀ W, Keep (fun _ => False) w W → W.cell? ⟨pb, 1, none⟩ = some (.slice (some ⟨ob, off, none⟩) G.ids.length cap) ∧ W.cell? ⟨ob, off + i, none⟩ = some row) ∧
      (∀ W, Keep (fun _ => False) w W → ArcRow W row (G.out.getD i [])) ∧ (G.out.getD i []).length ≤ 1000 ∧ ∀ a ∈ (G.out.getD i []), a.1 < G.ids.length := by
    obtain ⟨ho, iv, ov, nv, rows, h1, h2, h3, h4, h5, h6⟩ := h
    have hir : i < rows.length := by omega
    have hio : i < G.out.length := by rw [ho.len]; exact hin
    have hrow := List.getElem?_eq_getElem hir
    have hl := List.getElem?_eq_getElem hio
    have hA := h6 i _ _ hrow hl
    have hG := ho.rows _ (List.mem_of_getElem? hl)
    have hgd : G.out.getD i [] = G.out[i] := by rw [List.getD_eq_getElem?_getD, hl]; rfl
    rw [hgd]
    rcases h4 with ⟨_, h4⟩ | ⟨ob, off, cap, rfl, hob, hc, hc1, hc2⟩
    · rw [h4] at hir; cases hir
    refine ⟨rows[i], ob, off, cap, fun W hk => ⟨?_, ?_⟩, fun W hk => hA.1.keep hk (fun _ _ h => h), Nat.le_trans (asc_length hG.1 hG.2) ho.small, hG.2⟩
    · rw [hk.cell (a := ⟨pb, 1, none⟩) (lt_of_get h1) (fun h => h), cell_of h1, ← h5]; rfl
    · have := hc i _ hrow
      rw [hk.cell (a := ⟨ob, off + i, none⟩) (World.block_lt_of_cell? _ _ this) (fun h => h)]; exact this
  have hf : ∀ W, Keep (fun _ => False) w W → Calls Tryz.prog 263 #[pV pb, row] W fun e w' => ∃ it g, e = .returned (.iface 284 (.pointer (some ⟨it, 0, none⟩))) ∧ Iter w' it g ((G.nbr i).map nodeV) 0 ∧ w.heap.size ≤ it ∧ w.heap.size ≤ g ∧ Keep (fun _ => False) w w' := fun W hk =>
    (ends_spec (h.keepF hk) (hrow W hk) hl1 hl2).mono (by rintro e w' ⟨it, g, a1, a2, a3, a4, a5⟩; exact ⟨it, g, a1, a2, Nat.le_trans hk.size a3, Nat.le_trans hk.size a4, hk.trans a5 (fun _ _ h => h)⟩)
  have c1 := fun o => (hcc (w.alloc o) ((Keep.refl _ _).alloc _)).1
  have c2 := fun o => (hcc (w.alloc o) ((Keep.refl _ _).alloc _)).2
  have d1 : (0 : Int) ≤ (i : Int) := by omega
  have d2 : (i : Int) < (G.ids.length : Int) := by omega
  have HF := Lib.hid hf
  have HIX := Lib.hid hix
  clear hf h hid hix hcc hrow hl1 hl2
  go_enter Tryz.func257, Tryz.ntmps257
  go_wp2_with (first | (((with_reducible refine (HIX.out _ (by repeat first | exact Keep.refl _ _ | assumption | apply Keep.alloc | apply Keep.drewN | apply Keep.drew | (refine Keep.setCell ?_ _ (fun h => absurd h (Nat.lt_irrefl _))))).mono ?_); rintro e w1 ⟨rfl, n, rfl⟩)))
  go_region_with (first | (((with_reducible refine (HF.out _ (by repeat first | exact Keep.refl _ _ | assumption | apply Keep.alloc | apply Keep.drewN | apply Keep.drew | (refine Keep.setCell ?_ _ (fun h => absurd h (Nat.lt_irrefl _))))).mono ?_); rintro e w1 ⟨it, g, rfl, a2, a3, a4, a5⟩)))
  all_goals go_wp2
  all_goals go_ret
  all_goals exact ⟨it, g, rfl, a2, a3, a4, a5⟩
end Go.Proofs.YtdaccgelmcmfjaaGreatDoor
