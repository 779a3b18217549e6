/- impl's products, one by one (written by gen_wrap.py). -/
import Derived.Test.YtpjaeilkjglfhaaGreatMU
import Derived.Test.YtpjaeilkjglfhaaGreatP5
import Derived.Test.YtpjaeilkjglfhaaGreatP6
import Derived.Test.YtpjaeilkjglfhaaGreatP7
import Derived.Test.YtpjaeilkjglfhaaGreatP8
import Derived.Test.YtpjaeilkjglfhaaGreatP9
import Derived.Test.YtpjaeilkjglfhaaGreatJRM
set_option linter.all false
namespace Go.Proofs.YtpjaeilkjglfhaaGreat
open Go.RowKit Go.V Go.Sort Go.Lib
theorem PRow.keep {S : Nat → Prop} {w w' : World} {v : Value} {P : List (Int × Int)} (h : PRow w v P) (hk : Keep S w w') (hn : ∀ g, v.ownBlock = some g → ¬ S g) : PRow w' v P := by
  obtain ⟨g, cap, rfl, h1, h2⟩ := h
  exact ⟨g, cap, rfl, h1.keep hk (hn g rfl), Nat.lt_of_lt_of_le h2 hk.size⟩
def ImpPost (w : World) (ga gb : IG) (k : Nat) (e : Ending) (w' : World) : Prop := ∃ GA GB, UG GA ∧ UG GB ∧ Reads ga GA ∧ Reads gb GB ∧ MulPost w GA GB k e w'
theorem box2 {w : World} (x y z : Obj) : Keep (fun _ => False) w (((w.alloc x).alloc y).alloc z) ∧ (((w.alloc x).alloc y).alloc z).heap[w.heap.size + 1 + 1]? = some z ∧ (((w.alloc x).alloc y).alloc z).heap.size = w.heap.size + 3 :=
  ⟨(((Keep.refl _ w).alloc x).alloc y).alloc z, new_at (by simp) z, by simp⟩
def st3 (w : World) (b : Nat) (nv lv : Value) : World := ((w.setCell ⟨b, 0, none⟩ (.bool false)).setCell ⟨b, 1, none⟩ nv).setCell ⟨b, 2, none⟩ lv
theorem impTail {w w3 w1 : World} {ga gb : IG} {k : Nat} {e : Ending} (hx : w3.heap[w.heap.size + 1 + 1]? = some (.cells #[.bool false, .slice none 0 0, .slice none 0 0] 31 (0, 0))) (hk : Keep (fun _ => False) w w3) (hs : w3.heap.size = w.heap.size + 3) (h : ImpPost w3 ga gb k e w1) :
    ∃ gP n cP aL m cL, e = .returned (.tuple #[.agg #[.bool false, .slice (some ⟨gP, 0, none⟩) n cP, .slice aL m cL], .bool false]) ∧ (w1.cell? ⟨w.heap.size + 1 + 1, 0, none⟩ = some (.bool false) ∧ w1.cell? ⟨w.heap.size + 1 + 1, 1, none⟩ = some (.slice none 0 0) ∧ w1.cell? ⟨w.heap.size + 1 + 1, 2, none⟩ = some (.slice none 0 0) ∧ w1.frozen? ⟨w.heap.size + 1 + 1, 0, none⟩ = false ∧ w1.frozen? ⟨w.heap.size + 1 + 1, 1, none⟩ = false ∧ w1.frozen? ⟨w.heap.size + 1 + 1, 2, none⟩ = false) ∧
      ((st3 w1 (w.heap.size + 1 + 1) (.slice (some ⟨gP, 0, none⟩) n cP) (.slice aL m cL)).cell? ⟨w.heap.size + 1 + 1, 0, none⟩ = some (.bool false) ∧ (st3 w1 (w.heap.size + 1 + 1) (.slice (some ⟨gP, 0, none⟩) n cP) (.slice aL m cL)).cell? ⟨w.heap.size + 1 + 1, 1, none⟩ = some (.slice (some ⟨gP, 0, none⟩) n cP) ∧ (st3 w1 (w.heap.size + 1 + 1) (.slice (some ⟨gP, 0, none⟩) n cP) (.slice aL m cL)).cell? ⟨w.heap.size + 1 + 1, 2, none⟩ = some (.slice aL m cL)) ∧
      ImpPost w ga gb k (.returned (.tuple #[.agg #[.bool false, .slice (some ⟨gP, 0, none⟩) n cP, .slice aL m cL], .bool false])) (st3 w1 (w.heap.size + 1 + 1) (.slice (some ⟨gP, 0, none⟩) n cP) (.slice aL m cL)) := by
  obtain ⟨GA, GB, ua, ub, ra, rb, nv, lv, L, rfl, q1, q2, q3, q4, qn, ql, q5⟩ := h
  have q1a := q1
  obtain ⟨gP, cP, rfl, _⟩ := q1
  obtain ⟨aL, cL, rfl⟩ := q2.form
  have hx5 := q5.get hx (fun h => h)
  obtain ⟨x0, x1, x2, xf⟩ := three hx5
  have hqn := qn gP rfl
  have hql := ql
  rw [hs] at hqn hql
  have hqp : ∀ g, (Value.slice (some ⟨gP, 0, none⟩) (pairsOf GA.ids GB.ids).length cP).ownBlock = some g → w.heap.size + 1 + 1 + 1 ≤ g := fun g hg => by have e : gP = g := Option.some.inj hg; omega
  have hkw : Keep (fun b => b = w.heap.size + 1 + 1) w1 (st3 w1 (w.heap.size + 1 + 1) (.slice (some ⟨gP, 0, none⟩) (pairsOf GA.ids GB.ids).length cP) (.slice aL L.length cL)) :=
    (((Keep.refl (fun b => b = w.heap.size + 1 + 1) w1).setCell (a := ⟨w.heap.size + 1 + 1, 0, none⟩) _ (fun _ => rfl)).setCell (a := ⟨w.heap.size + 1 + 1, 1, none⟩) _ (fun _ => rfl)).setCell (a := ⟨w.heap.size + 1 + 1, 2, none⟩) _ (fun _ => rfl)
  have hpb : PBlk w1 (w.heap.size + 1 + 1) (.slice none 0 0) (.slice none 0 0) := hx5
  obtain ⟨y0, y1, y2, _⟩ := (((hpb.set0).set1 (.slice (some ⟨gP, 0, none⟩) (pairsOf GA.ids GB.ids).length cP)).set2 (.slice aL L.length cL)).cells
  exact ⟨gP, _, cP, aL, _, cL, rfl, ⟨x0, x1, x2, xf 0, xf 1, xf 2⟩, ⟨y0, y1, y2⟩, GA, GB, ua, ub, ra, rb, _, _, L, rfl, PRow.keep q1a hkw (fun g hg e => by have := hqp g hg; omega), q2.keep hkw (fun g hg e => by have := hql g hg; omega), q3, q4, fun g hg => (by have := hqp g hg; omega), fun g hg => (by have := hql g hg; omega), (hk.trans q5 (fun _ _ h => h)).trans hkw (fun b hb h => by omega)⟩
theorem laysCartesian : Lays 22 0 := fun B1 pa pb bb w GA GB h1 h2 h3 h4 h5 h6 h7 h8 h9 h10 => prodCart_spec h1 h2 h3 h4 h5 h6 h7 h8 h9 h10
set_option maxHeartbeats 8000000 in
set_option maxRecDepth 20000 in
theorem impCartesian_spec {B : Nat} {w : World} {ga gb : IG} {gav gbv : Value} (hga : GraphAt B w gav ga) (hgb : GraphAt B w gbv gb) (hB : B ≤ w.heap.size) (gda : GoodU ga) (gdb : GoodU gb) (a0 : 0 < ga.nodes.length) (b0 : 0 < gb.nodes.length) (a8 : ga.nodes.length ≤ 8) (b8 : gb.nodes.length ≤ 8) :
    Calls Tryz.prog 7 #[gav, gbv] w (ImpPost w ga gb 0) := by
  have heg : ∀ args w, (callFunc 22 args).run Tryz.prog w = .ok (.enter 22 args) w := enters_of Tryz.func22 (by kernel_rfl) rfl
  have hmu := fun W (hk : Keep (fun _ => False) w W) => multiply_spec heg laysCartesian (hga.keepF hk) (hgb.keepF hk) (Nat.le_trans hB hk.size) gda gdb a0 b0 a8 b8
  have hda := gda.dir
  have hdb := gdb.dir
  obtain ⟨na, nn, nc, ea, en, ec, rfl⟩ := graph_form hga
  obtain ⟨na', nn', nc', ea', en', ec', rfl⟩ := graph_form hgb
  rw [hda] at *
  rw [hdb] at *
  obtain ⟨hkx, hx2, hsx⟩ := box2 (w := w) (.cells #[.bool false, .slice na nn nc, .slice ea en ec] 25 (0, 0)) (.cells #[.bool false, .slice na' nn' nc', .slice ea' en' ec'] 25 (0, 0)) (.cells #[.bool false, .slice none 0 0, .slice none 0 0] 31 (0, 0))
  have HMU := Lib.hid hmu
  have HKX := Lib.hid hkx
  have HX2 := Lib.hid hx2
  have HSX := Lib.hid hsx
  clear hmu hga hgb hda hdb heg hkx hx2 hsx
  go_enter Tryz.func7, Tryz.ntmps7
  go_wp2_with (first
    | (((with_reducible refine (HMU.out _ HKX.out).mono ?_); rintro e w1 hp); obtain ⟨gP, n, cP, aL, m, cL, rfl, ⟨x0, x1, x2, f0, f1, f2⟩, hy, hf⟩ := impTail HX2.out HKX.out HSX.out hp; have HY := Lib.hid hy; have HF := Lib.hid hf; clear hp hy hf))
  obtain ⟨y0, y1, y2⟩ := HY.out
  unfold st3 at HF y0 y1 y2
  generalize (((w1.setCell ⟨w.heap.size + 1 + 1, 0, none⟩ (.bool false)).setCell ⟨w.heap.size + 1 + 1, 1, none⟩ (.slice (some ⟨gP, 0, none⟩) n cP)).setCell ⟨w.heap.size + 1 + 1, 2, none⟩ (.slice aL m cL)) = wf at *
  (try simp only [Exit.inBlock, Exit.then])
  refine bodyPost_ret (by simp [results, Tryz.results7, go_sem, y0, y1, y2]; try rfl) rfl ?_
  exact HF.out
theorem laysCoNormal : Lays 150 1 := fun B1 pa pb bb w GA GB h1 h2 h3 h4 h5 h6 h7 h8 h9 h10 => prodCoN_spec h1 h2 h3 h4 h5 h6 h7 h8 h9 h10
set_option maxHeartbeats 8000000 in
set_option maxRecDepth 20000 in
theorem impCoNormal_spec {B : Nat} {w : World} {ga gb : IG} {gav gbv : Value} (hga : GraphAt B w gav ga) (hgb : GraphAt B w gbv gb) (hB : B ≤ w.heap.size) (gda : GoodU ga) (gdb : GoodU gb) (a0 : 0 < ga.nodes.length) (b0 : 0 < gb.nodes.length) (a8 : ga.nodes.length ≤ 8) (b8 : gb.nodes.length ≤ 8) :
    Calls Tryz.prog 82 #[gav, gbv] w (ImpPost w ga gb 1) := by
  have heg : ∀ args w, (callFunc 150 args).run Tryz.prog w = .ok (.enter 150 args) w := enters_of Tryz.func150 (by kernel_rfl) rfl
  have hmu := fun W (hk : Keep (fun _ => False) w W) => multiply_spec heg laysCoNormal (hga.keepF hk) (hgb.keepF hk) (Nat.le_trans hB hk.size) gda gdb a0 b0 a8 b8
  have hda := gda.dir
  have hdb := gdb.dir
  obtain ⟨na, nn, nc, ea, en, ec, rfl⟩ := graph_form hga
  obtain ⟨na', nn', nc', ea', en', ec', rfl⟩ := graph_form hgb
  rw [hda] at *
  rw [hdb] at *
  obtain ⟨hkx, hx2, hsx⟩ := box2 (w := w) (.cells #[.bool false, .slice na nn nc, .slice ea en ec] 25 (0, 0)) (.cells #[.bool false, .slice na' nn' nc', .slice ea' en' ec'] 25 (0, 0)) (.cells #[.bool false, .slice none 0 0, .slice none 0 0] 31 (0, 0))
  have HMU := Lib.hid hmu
  have HKX := Lib.hid hkx
  have HX2 := Lib.hid hx2
  have HSX := Lib.hid hsx
  clear hmu hga hgb hda hdb heg hkx hx2 hsx
  go_enter Tryz.func82, Tryz.ntmps82
  go_wp2_with (first
    | (((with_reducible refine (HMU.out _ HKX.out).mono ?_); rintro e w1 hp); obtain ⟨gP, n, cP, aL, m, cL, rfl, ⟨x0, x1, x2, f0, f1, f2⟩, hy, hf⟩ := impTail HX2.out HKX.out HSX.out hp; have HY := Lib.hid hy; have HF := Lib.hid hf; clear hp hy hf))
  obtain ⟨y0, y1, y2⟩ := HY.out
  unfold st3 at HF y0 y1 y2
  generalize (((w1.setCell ⟨w.heap.size + 1 + 1, 0, none⟩ (.bool false)).setCell ⟨w.heap.size + 1 + 1, 1, none⟩ (.slice (some ⟨gP, 0, none⟩) n cP)).setCell ⟨w.heap.size + 1 + 1, 2, none⟩ (.slice aL m cL)) = wf at *
  (try simp only [Exit.inBlock, Exit.then])
  refine bodyPost_ret (by simp [results, Tryz.results82, go_sem, y0, y1, y2]; try rfl) rfl ?_
  exact HF.out
theorem laysLexi : Lays 151 2 := fun B1 pa pb bb w GA GB h1 h2 h3 h4 h5 h6 h7 h8 h9 h10 => prodLex_spec h1 h2 h3 h4 h5 h6 h7 h8 h9 h10
set_option maxHeartbeats 8000000 in
set_option maxRecDepth 20000 in
theorem impLexi_spec {B : Nat} {w : World} {ga gb : IG} {gav gbv : Value} (hga : GraphAt B w gav ga) (hgb : GraphAt B w gbv gb) (hB : B ≤ w.heap.size) (gda : GoodU ga) (gdb : GoodU gb) (a0 : 0 < ga.nodes.length) (b0 : 0 < gb.nodes.length) (a8 : ga.nodes.length ≤ 8) (b8 : gb.nodes.length ≤ 8) :
    Calls Tryz.prog 83 #[gav, gbv] w (ImpPost w ga gb 2) := by
  have heg : ∀ args w, (callFunc 151 args).run Tryz.prog w = .ok (.enter 151 args) w := enters_of Tryz.func151 (by kernel_rfl) rfl
  have hmu := fun W (hk : Keep (fun _ => False) w W) => multiply_spec heg laysLexi (hga.keepF hk) (hgb.keepF hk) (Nat.le_trans hB hk.size) gda gdb a0 b0 a8 b8
  have hda := gda.dir
  have hdb := gdb.dir
  obtain ⟨na, nn, nc, ea, en, ec, rfl⟩ := graph_form hga
  obtain ⟨na', nn', nc', ea', en', ec', rfl⟩ := graph_form hgb
  rw [hda] at *
  rw [hdb] at *
  obtain ⟨hkx, hx2, hsx⟩ := box2 (w := w) (.cells #[.bool false, .slice na nn nc, .slice ea en ec] 25 (0, 0)) (.cells #[.bool false, .slice na' nn' nc', .slice ea' en' ec'] 25 (0, 0)) (.cells #[.bool false, .slice none 0 0, .slice none 0 0] 31 (0, 0))
  have HMU := Lib.hid hmu
  have HKX := Lib.hid hkx
  have HX2 := Lib.hid hx2
  have HSX := Lib.hid hsx
  clear hmu hga hgb hda hdb heg hkx hx2 hsx
  go_enter Tryz.func83, Tryz.ntmps83
  go_wp2_with (first
    | (((with_reducible refine (HMU.out _ HKX.out).mono ?_); rintro e w1 hp); obtain ⟨gP, n, cP, aL, m, cL, rfl, ⟨x0, x1, x2, f0, f1, f2⟩, hy, hf⟩ := impTail HX2.out HKX.out HSX.out hp; have HY := Lib.hid hy; have HF := Lib.hid hf; clear hp hy hf))
  obtain ⟨y0, y1, y2⟩ := HY.out
  unfold st3 at HF y0 y1 y2
  generalize (((w1.setCell ⟨w.heap.size + 1 + 1, 0, none⟩ (.bool false)).setCell ⟨w.heap.size + 1 + 1, 1, none⟩ (.slice (some ⟨gP, 0, none⟩) n cP)).setCell ⟨w.heap.size + 1 + 1, 2, none⟩ (.slice aL m cL)) = wf at *
  (try simp only [Exit.inBlock, Exit.then])
  refine bodyPost_ret (by simp [results, Tryz.results83, go_sem, y0, y1, y2]; try rfl) rfl ?_
  exact HF.out
theorem laysStrong : Lays 153 4 := fun B1 pa pb bb w GA GB h1 h2 h3 h4 h5 h6 h7 h8 h9 h10 => prodStrong_spec h1 h2 h3 h4 h5 h6 h7 h8 h9 h10
set_option maxHeartbeats 8000000 in
set_option maxRecDepth 20000 in
theorem impStrong_spec {B : Nat} {w : World} {ga gb : IG} {gav gbv : Value} (hga : GraphAt B w gav ga) (hgb : GraphAt B w gbv gb) (hB : B ≤ w.heap.size) (gda : GoodU ga) (gdb : GoodU gb) (a0 : 0 < ga.nodes.length) (b0 : 0 < gb.nodes.length) (a8 : ga.nodes.length ≤ 8) (b8 : gb.nodes.length ≤ 8) :
    Calls Tryz.prog 85 #[gav, gbv] w (ImpPost w ga gb 4) := by
  have heg : ∀ args w, (callFunc 153 args).run Tryz.prog w = .ok (.enter 153 args) w := enters_of Tryz.func153 (by kernel_rfl) rfl
  have hmu := fun W (hk : Keep (fun _ => False) w W) => multiply_spec heg laysStrong (hga.keepF hk) (hgb.keepF hk) (Nat.le_trans hB hk.size) gda gdb a0 b0 a8 b8
  have hda := gda.dir
  have hdb := gdb.dir
  obtain ⟨na, nn, nc, ea, en, ec, rfl⟩ := graph_form hga
  obtain ⟨na', nn', nc', ea', en', ec', rfl⟩ := graph_form hgb
  rw [hda] at *
  rw [hdb] at *
  obtain ⟨hkx, hx2, hsx⟩ := box2 (w := w) (.cells #[.bool false, .slice na nn nc, .slice ea en ec] 25 (0, 0)) (.cells #[.bool false, .slice na' nn' nc', .slice ea' en' ec'] 25 (0, 0)) (.cells #[.bool false, .slice none 0 0, .slice none 0 0] 31 (0, 0))
  have HMU := Lib.hid hmu
  have HKX := Lib.hid hkx
  have HX2 := Lib.hid hx2
  have HSX := Lib.hid hsx
  clear hmu hga hgb hda hdb heg hkx hx2 hsx
  go_enter Tryz.func85, Tryz.ntmps85
  go_wp2_with (first
    | (((with_reducible refine (HMU.out _ HKX.out).mono ?_); rintro e w1 hp); obtain ⟨gP, n, cP, aL, m, cL, rfl, ⟨x0, x1, x2, f0, f1, f2⟩, hy, hf⟩ := impTail HX2.out HKX.out HSX.out hp; have HY := Lib.hid hy; have HF := Lib.hid hf; clear hp hy hf))
  obtain ⟨y0, y1, y2⟩ := HY.out
  unfold st3 at HF y0 y1 y2
  generalize (((w1.setCell ⟨w.heap.size + 1 + 1, 0, none⟩ (.bool false)).setCell ⟨w.heap.size + 1 + 1, 1, none⟩ (.slice (some ⟨gP, 0, none⟩) n cP)).setCell ⟨w.heap.size + 1 + 1, 2, none⟩ (.slice aL m cL)) = wf at *
  (try simp only [Exit.inBlock, Exit.then])
  refine bodyPost_ret (by simp [results, Tryz.results85, go_sem, y0, y1, y2]; try rfl) rfl ?_
  exact HF.out
theorem laysTensor : Lays 154 5 := fun B1 pa pb bb w GA GB h1 h2 h3 h4 h5 h6 h7 h8 h9 h10 => prodTens_spec h1 h2 h3 h4 h5 h6 h7 h8 h9 h10
set_option maxHeartbeats 8000000 in
set_option maxRecDepth 20000 in
theorem impTensor_spec {B : Nat} {w : World} {ga gb : IG} {gav gbv : Value} (hga : GraphAt B w gav ga) (hgb : GraphAt B w gbv gb) (hB : B ≤ w.heap.size) (gda : GoodU ga) (gdb : GoodU gb) (a0 : 0 < ga.nodes.length) (b0 : 0 < gb.nodes.length) (a8 : ga.nodes.length ≤ 8) (b8 : gb.nodes.length ≤ 8) :
    Calls Tryz.prog 86 #[gav, gbv] w (ImpPost w ga gb 5) := by
  have heg : ∀ args w, (callFunc 154 args).run Tryz.prog w = .ok (.enter 154 args) w := enters_of Tryz.func154 (by kernel_rfl) rfl
  have hmu := fun W (hk : Keep (fun _ => False) w W) => multiply_spec heg laysTensor (hga.keepF hk) (hgb.keepF hk) (Nat.le_trans hB hk.size) gda gdb a0 b0 a8 b8
  have hda := gda.dir
  have hdb := gdb.dir
  obtain ⟨na, nn, nc, ea, en, ec, rfl⟩ := graph_form hga
  obtain ⟨na', nn', nc', ea', en', ec', rfl⟩ := graph_form hgb
  rw [hda] at *
  rw [hdb] at *
  obtain ⟨hkx, hx2, hsx⟩ := box2 (w := w) (.cells #[.bool false, .slice na nn nc, .slice ea en ec] 25 (0, 0)) (.cells #[.bool false, .slice na' nn' nc', .slice ea' en' ec'] 25 (0, 0)) (.cells #[.bool false, .slice none 0 0, .slice none 0 0] 31 (0, 0))
  have HMU := Lib.hid hmu
  have HKX := Lib.hid hkx
  have HX2 := Lib.hid hx2
  have HSX := Lib.hid hsx
  clear hmu hga hgb hda hdb heg hkx hx2 hsx
  go_enter Tryz.func86, Tryz.ntmps86
  go_wp2_with (first
    | (((with_reducible refine (HMU.out _ HKX.out).mono ?_); rintro e w1 hp); obtain ⟨gP, n, cP, aL, m, cL, rfl, ⟨x0, x1, x2, f0, f1, f2⟩, hy, hf⟩ := impTail HX2.out HKX.out HSX.out hp; have HY := Lib.hid hy; have HF := Lib.hid hf; clear hp hy hf))
  obtain ⟨y0, y1, y2⟩ := HY.out
  unfold st3 at HF y0 y1 y2
  generalize (((w1.setCell ⟨w.heap.size + 1 + 1, 0, none⟩ (.bool false)).setCell ⟨w.heap.size + 1 + 1, 1, none⟩ (.slice (some ⟨gP, 0, none⟩) n cP)).setCell ⟨w.heap.size + 1 + 1, 2, none⟩ (.slice aL m cL)) = wf at *
  (try simp only [Exit.inBlock, Exit.then])
  refine bodyPost_ret (by simp [results, Tryz.results86, go_sem, y0, y1, y2]; try rfl) rfl ?_
  exact HF.out
theorem laysModular : Lays 152 3 := fun B1 pa pb bb w GA GB h1 h2 h3 h4 h5 h6 h7 h8 h9 h10 => prodMod_spec h1 h2 h3 h4 h5 h6 h7 h8 h9 h10
set_option maxHeartbeats 8000000 in
set_option maxRecDepth 20000 in
theorem impModular_spec {B : Nat} {w : World} {ga gb : IG} {gav gbv : Value} (hga : GraphAt B w gav ga) (hgb : GraphAt B w gbv gb) (hB : B ≤ w.heap.size) (gda : GoodU ga) (gdb : GoodU gb) (a0 : 0 < ga.nodes.length) (b0 : 0 < gb.nodes.length) (a8 : ga.nodes.length ≤ 8) (b8 : gb.nodes.length ≤ 8) :
    Calls Tryz.prog 84 #[gav, gbv] w (ImpPost w ga gb 3) := by
  have heg : ∀ args w, (callFunc 152 args).run Tryz.prog w = .ok (.enter 152 args) w := enters_of Tryz.func152 (by kernel_rfl) rfl
  have hmu := fun W (hk : Keep (fun _ => False) w W) => multiply_spec heg laysModular (hga.keepF hk) (hgb.keepF hk) (Nat.le_trans hB hk.size) gda gdb a0 b0 a8 b8
  have hda := gda.dir
  have hdb := gdb.dir
  obtain ⟨na, nn, nc, ea, en, ec, rfl⟩ := graph_form hga
  obtain ⟨na', nn', nc', ea', en', ec', rfl⟩ := graph_form hgb
  rw [hda] at *
  rw [hdb] at *
  obtain ⟨hkx, hx2, hsx⟩ := box2 (w := w) (.cells #[.bool false, .slice na nn nc, .slice ea en ec] 25 (0, 0)) (.cells #[.bool false, .slice na' nn' nc', .slice ea' en' ec'] 25 (0, 0)) (.cells #[.bool false, .slice none 0 0, .slice none 0 0] 31 (0, 0))
  have HMU := Lib.hid hmu
  have HKX := Lib.hid hkx
  have HX2 := Lib.hid hx2
  have HSX := Lib.hid hsx
  clear hmu hga hgb hda hdb heg hkx hx2 hsx
  go_enter Tryz.func84, Tryz.ntmps84
  go_wp2_with (first
    | (((with_reducible refine (HMU.out _ HKX.out).mono ?_); rintro e w1 hp); obtain ⟨gP, n, cP, aL, m, cL, rfl, ⟨x0, x1, x2, f0, f1, f2⟩, hy, hf⟩ := impTail HX2.out HKX.out HSX.out hp; have HY := Lib.hid hy; have HF := Lib.hid hf; clear hp hy hf))
  obtain ⟨y0, y1, y2⟩ := HY.out
  unfold st3 at HF y0 y1 y2
  generalize (((w1.setCell ⟨w.heap.size + 1 + 1, 0, none⟩ (.bool false)).setCell ⟨w.heap.size + 1 + 1, 1, none⟩ (.slice (some ⟨gP, 0, none⟩) n cP)).setCell ⟨w.heap.size + 1 + 1, 2, none⟩ (.slice aL m cL)) = wf at *
  (try simp only [Exit.inBlock, Exit.then])
  refine bodyPost_ret (by simp [results, Tryz.results84, go_sem, y0, y1, y2]; try rfl) rfl ?_
  exact HF.out
end Go.Proofs.YtpjaeilkjglfhaaGreat
