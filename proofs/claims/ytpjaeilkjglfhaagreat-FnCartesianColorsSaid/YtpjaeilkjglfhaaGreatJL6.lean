/- laws.product, kind by kind (written by gen_law.py). -/
import Derived.Test.YtpjaeilkjglfhaaGreatMW
import Derived.Test.YtpjaeilkjglfhaaGreatJPF
import Derived.BigQuiet
import Derived.Test.YtpjaeilkjglfhaaGreatJL1
import Derived.Test.YtpjaeilkjglfhaaGreatJR3
set_option linter.all false
section
namespace Go.Proofs.YtpjaeilkjglfhaaGreat
open Go.RowKit Go.V Go.Sort Go.Lib
set_option maxHeartbeats 4000000 in
set_option maxRecDepth 20000 in
theorem productCartesian_spec {B : Nat} {w : World} {ga gb : IG} {gav gbv : Value} (hga : GraphAt B w gav ga) (hgb : GraphAt B w gbv gb) (hB : B ≤ w.heap.size) (gda : GoodU ga) (gdb : GoodU gb) (a0 : 0 < ga.nodes.length) (b0 : 0 < gb.nodes.length) (a8 : ga.nodes.length ≤ 8) (b8 : gb.nodes.length ≤ 8) :
    Calls Tryz.prog 27 #[.int .i64 0, gav, gbv] w (ImpPost w ga gb 0) := by
  have hmu := fun W (hk : Keep (fun _ => False) w W) => impCartesian_spec (hga.keepF hk) (hgb.keepF hk) (Nat.le_trans hB hk.size) gda gdb a0 b0 a8 b8
  have hda := gda.dir
  have hdb := gdb.dir
  obtain ⟨na, nn, nc, ea, en, ec, rfl⟩ := graph_form hga
  obtain ⟨na', nn', nc', ea', en', ec', rfl⟩ := graph_form hgb
  rw [hda] at *
  rw [hdb] at *
  obtain ⟨hkx, hx2, hsx⟩ := box2 (w := w) (.cells #[.bool false, .slice na nn nc, .slice ea en ec] 25 (0, 0)) (.cells #[.bool false, .slice na' nn' nc', .slice ea' en' ec'] 25 (0, 0)) (.cells #[.bool false, .slice none 0 0, .slice none 0 0] 31 (0, 0))
  have HMU := Lib.hid hmu
  have HKX := Lib.hid hkx
  have HX2 := Lib.hid hx2
  have HSX := Lib.hid hsx
  clear hmu hga hgb hda hdb hkx hx2 hsx
  go_enter Tryz.func27, Tryz.ntmps27
  go_wp2_with (first
    | (((with_reducible refine (HMU.out _ HKX.out).mono ?_); rintro e w1 hp); obtain ⟨gP, n, cP, aL, m, cL, rfl, ⟨x0, x1, x2, f0, f1, f2⟩, hy, hf⟩ := impTail HX2.out HKX.out HSX.out hp; have HY := Lib.hid hy; have HF := Lib.hid hf; clear hp hy hf))
  obtain ⟨y0, y1, y2⟩ := HY.out
  unfold st3 at HF y0 y1 y2
  generalize (((w1.setCell ⟨w.heap.size + 1 + 1, 0, none⟩ (.bool false)).setCell ⟨w.heap.size + 1 + 1, 1, none⟩ (.slice (some ⟨gP, 0, none⟩) n cP)).setCell ⟨w.heap.size + 1 + 1, 2, none⟩ (.slice aL m cL)) = wf at *
  (try simp only [Exit.inBlock, Exit.then])
  refine bodyPost_ret (by simp [results, Tryz.results27, go_sem, y0, y1, y2]; try rfl) rfl ?_
  exact HF.out
set_option maxHeartbeats 4000000 in
set_option maxRecDepth 20000 in
theorem productCoNormal_spec {B : Nat} {w : World} {ga gb : IG} {gav gbv : Value} (hga : GraphAt B w gav ga) (hgb : GraphAt B w gbv gb) (hB : B ≤ w.heap.size) (gda : GoodU ga) (gdb : GoodU gb) (a0 : 0 < ga.nodes.length) (b0 : 0 < gb.nodes.length) (a8 : ga.nodes.length ≤ 8) (b8 : gb.nodes.length ≤ 8) :
    Calls Tryz.prog 27 #[.int .i64 1, gav, gbv] w (ImpPost w ga gb 1) := by
  have hmu := fun W (hk : Keep (fun _ => False) w W) => impCoNormal_spec (hga.keepF hk) (hgb.keepF hk) (Nat.le_trans hB hk.size) gda gdb a0 b0 a8 b8
  have hda := gda.dir
  have hdb := gdb.dir
  obtain ⟨na, nn, nc, ea, en, ec, rfl⟩ := graph_form hga
  obtain ⟨na', nn', nc', ea', en', ec', rfl⟩ := graph_form hgb
  rw [hda] at *
  rw [hdb] at *
  obtain ⟨hkx, hx2, hsx⟩ := box2 (w := w) (.cells #[.bool false, .slice na nn nc, .slice ea en ec] 25 (0, 0)) (.cells #[.bool false, .slice na' nn' nc', .slice ea' en' ec'] 25 (0, 0)) (.cells #[.bool false, .slice none 0 0, .slice none 0 0] 31 (0, 0))
  have HMU := Lib.hid hmu
  have HKX := Lib.hid hkx
  have HX2 := Lib.hid hx2
  have HSX := Lib.hid hsx
  clear hmu hga hgb hda hdb hkx hx2 hsx
  go_enter Tryz.func27, Tryz.ntmps27
  go_wp2_with (first
    | (((with_reducible refine (HMU.out _ HKX.out).mono ?_); rintro e w1 hp); obtain ⟨gP, n, cP, aL, m, cL, rfl, ⟨x0, x1, x2, f0, f1, f2⟩, hy, hf⟩ := impTail HX2.out HKX.out HSX.out hp; have HY := Lib.hid hy; have HF := Lib.hid hf; clear hp hy hf))
  obtain ⟨y0, y1, y2⟩ := HY.out
  unfold st3 at HF y0 y1 y2
  generalize (((w1.setCell ⟨w.heap.size + 1 + 1, 0, none⟩ (.bool false)).setCell ⟨w.heap.size + 1 + 1, 1, none⟩ (.slice (some ⟨gP, 0, none⟩) n cP)).setCell ⟨w.heap.size + 1 + 1, 2, none⟩ (.slice aL m cL)) = wf at *
  (try simp only [Exit.inBlock, Exit.then])
  refine bodyPost_ret (by simp [results, Tryz.results27, go_sem, y0, y1, y2]; try rfl) rfl ?_
  exact HF.out
set_option maxHeartbeats 4000000 in
set_option maxRecDepth 20000 in
theorem productLexi_spec {B : Nat} {w : World} {ga gb : IG} {gav gbv : Value} (hga : GraphAt B w gav ga) (hgb : GraphAt B w gbv gb) (hB : B ≤ w.heap.size) (gda : GoodU ga) (gdb : GoodU gb) (a0 : 0 < ga.nodes.length) (b0 : 0 < gb.nodes.length) (a8 : ga.nodes.length ≤ 8) (b8 : gb.nodes.length ≤ 8) :
    Calls Tryz.prog 27 #[.int .i64 2, gav, gbv] w (ImpPost w ga gb 2) := by
  have hmu := fun W (hk : Keep (fun _ => False) w W) => impLexi_spec (hga.keepF hk) (hgb.keepF hk) (Nat.le_trans hB hk.size) gda gdb a0 b0 a8 b8
  have hda := gda.dir
  have hdb := gdb.dir
  obtain ⟨na, nn, nc, ea, en, ec, rfl⟩ := graph_form hga
  obtain ⟨na', nn', nc', ea', en', ec', rfl⟩ := graph_form hgb
  rw [hda] at *
  rw [hdb] at *
  obtain ⟨hkx, hx2, hsx⟩ := box2 (w := w) (.cells #[.bool false, .slice na nn nc, .slice ea en ec] 25 (0, 0)) (.cells #[.bool false, .slice na' nn' nc', .slice ea' en' ec'] 25 (0, 0)) (.cells #[.bool false, .slice none 0 0, .slice none 0 0] 31 (0, 0))
  have HMU := Lib.hid hmu
  have HKX := Lib.hid hkx
  have HX2 := Lib.hid hx2
  have HSX := Lib.hid hsx
  clear hmu hga hgb hda hdb hkx hx2 hsx
  go_enter Tryz.func27, Tryz.ntmps27
  go_wp2_with (first
    | (((with_reducible refine (HMU.out _ HKX.out).mono ?_); rintro e w1 hp); obtain ⟨gP, n, cP, aL, m, cL, rfl, ⟨x0, x1, x2, f0, f1, f2⟩, hy, hf⟩ := impTail HX2.out HKX.out HSX.out hp; have HY := Lib.hid hy; have HF := Lib.hid hf; clear hp hy hf))
  obtain ⟨y0, y1, y2⟩ := HY.out
  unfold st3 at HF y0 y1 y2
  generalize (((w1.setCell ⟨w.heap.size + 1 + 1, 0, none⟩ (.bool false)).setCell ⟨w.heap.size + 1 + 1, 1, none⟩ (.slice (some ⟨gP, 0, none⟩) n cP)).setCell ⟨w.heap.size + 1 + 1, 2, none⟩ (.slice aL m cL)) = wf at *
  (try simp only [Exit.inBlock, Exit.then])
  refine bodyPost_ret (by simp [results, Tryz.results27, go_sem, y0, y1, y2]; try rfl) rfl ?_
  exact HF.out
set_option maxHeartbeats 4000000 in
set_option maxRecDepth 20000 in
theorem productModular_spec {B : Nat} {w : World} {ga gb : IG} {gav gbv : Value} (hga : GraphAt B w gav ga) (hgb : GraphAt B w gbv gb) (hB : B ≤ w.heap.size) (gda : GoodU ga) (gdb : GoodU gb) (a0 : 0 < ga.nodes.length) (b0 : 0 < gb.nodes.length) (a8 : ga.nodes.length ≤ 8) (b8 : gb.nodes.length ≤ 8) :
    Calls Tryz.prog 27 #[.int .i64 3, gav, gbv] w (ImpPost w ga gb 3) := by
  have hmu := fun W (hk : Keep (fun _ => False) w W) => impModular_spec (hga.keepF hk) (hgb.keepF hk) (Nat.le_trans hB hk.size) gda gdb a0 b0 a8 b8
  have hda := gda.dir
  have hdb := gdb.dir
  obtain ⟨na, nn, nc, ea, en, ec, rfl⟩ := graph_form hga
  obtain ⟨na', nn', nc', ea', en', ec', rfl⟩ := graph_form hgb
  rw [hda] at *
  rw [hdb] at *
  obtain ⟨hkx, hx2, hsx⟩ := box2 (w := w) (.cells #[.bool false, .slice na nn nc, .slice ea en ec] 25 (0, 0)) (.cells #[.bool false, .slice na' nn' nc', .slice ea' en' ec'] 25 (0, 0)) (.cells #[.bool false, .slice none 0 0, .slice none 0 0] 31 (0, 0))
  have HMU := Lib.hid hmu
  have HKX := Lib.hid hkx
  have HX2 := Lib.hid hx2
  have HSX := Lib.hid hsx
  clear hmu hga hgb hda hdb hkx hx2 hsx
  go_enter Tryz.func27, Tryz.ntmps27
  go_wp2_with (first
    | (((with_reducible refine (HMU.out _ HKX.out).mono ?_); rintro e w1 hp); obtain ⟨gP, n, cP, aL, m, cL, rfl, ⟨x0, x1, x2, f0, f1, f2⟩, hy, hf⟩ := impTail HX2.out HKX.out HSX.out hp; have HY := Lib.hid hy; have HF := Lib.hid hf; clear hp hy hf))
  obtain ⟨y0, y1, y2⟩ := HY.out
  unfold st3 at HF y0 y1 y2
  generalize (((w1.setCell ⟨w.heap.size + 1 + 1, 0, none⟩ (.bool false)).setCell ⟨w.heap.size + 1 + 1, 1, none⟩ (.slice (some ⟨gP, 0, none⟩) n cP)).setCell ⟨w.heap.size + 1 + 1, 2, none⟩ (.slice aL m cL)) = wf at *
  (try simp only [Exit.inBlock, Exit.then])
  refine bodyPost_ret (by simp [results, Tryz.results27, go_sem, y0, y1, y2]; try rfl) rfl ?_
  exact HF.out
set_option maxHeartbeats 4000000 in
set_option maxRecDepth 20000 in
theorem productStrong_spec {B : Nat} {w : World} {ga gb : IG} {gav gbv : Value} (hga : GraphAt B w gav ga) (hgb : GraphAt B w gbv gb) (hB : B ≤ w.heap.size) (gda : GoodU ga) (gdb : GoodU gb) (a0 : 0 < ga.nodes.length) (b0 : 0 < gb.nodes.length) (a8 : ga.nodes.length ≤ 8) (b8 : gb.nodes.length ≤ 8) :
    Calls Tryz.prog 27 #[.int .i64 4, gav, gbv] w (ImpPost w ga gb 4) := by
  have hmu := fun W (hk : Keep (fun _ => False) w W) => impStrong_spec (hga.keepF hk) (hgb.keepF hk) (Nat.le_trans hB hk.size) gda gdb a0 b0 a8 b8
  have hda := gda.dir
  have hdb := gdb.dir
  obtain ⟨na, nn, nc, ea, en, ec, rfl⟩ := graph_form hga
  obtain ⟨na', nn', nc', ea', en', ec', rfl⟩ := graph_form hgb
  rw [hda] at *
  rw [hdb] at *
  obtain ⟨hkx, hx2, hsx⟩ := box2 (w := w) (.cells #[.bool false, .slice na nn nc, .slice ea en ec] 25 (0, 0)) (.cells #[.bool false, .slice na' nn' nc', .slice ea' en' ec'] 25 (0, 0)) (.cells #[.bool false, .slice none 0 0, .slice none 0 0] 31 (0, 0))
  have HMU := Lib.hid hmu
  have HKX := Lib.hid hkx
  have HX2 := Lib.hid hx2
  have HSX := Lib.hid hsx
  clear hmu hga hgb hda hdb hkx hx2 hsx
  go_enter Tryz.func27, Tryz.ntmps27
  go_wp2_with (first
    | (((with_reducible refine (HMU.out _ HKX.out).mono ?_); rintro e w1 hp); obtain ⟨gP, n, cP, aL, m, cL, rfl, ⟨x0, x1, x2, f0, f1, f2⟩, hy, hf⟩ := impTail HX2.out HKX.out HSX.out hp; have HY := Lib.hid hy; have HF := Lib.hid hf; clear hp hy hf))
  obtain ⟨y0, y1, y2⟩ := HY.out
  unfold st3 at HF y0 y1 y2
  generalize (((w1.setCell ⟨w.heap.size + 1 + 1, 0, none⟩ (.bool false)).setCell ⟨w.heap.size + 1 + 1, 1, none⟩ (.slice (some ⟨gP, 0, none⟩) n cP)).setCell ⟨w.heap.size + 1 + 1, 2, none⟩ (.slice aL m cL)) = wf at *
  (try simp only [Exit.inBlock, Exit.then])
  refine bodyPost_ret (by simp [results, Tryz.results27, go_sem, y0, y1, y2]; try rfl) rfl ?_
  exact HF.out
set_option maxHeartbeats 4000000 in
set_option maxRecDepth 20000 in
theorem productTensor_spec {B : Nat} {w : World} {ga gb : IG} {gav gbv : Value} (hga : GraphAt B w gav ga) (hgb : GraphAt B w gbv gb) (hB : B ≤ w.heap.size) (gda : GoodU ga) (gdb : GoodU gb) (a0 : 0 < ga.nodes.length) (b0 : 0 < gb.nodes.length) (a8 : ga.nodes.length ≤ 8) (b8 : gb.nodes.length ≤ 8) :
    Calls Tryz.prog 27 #[.int .i64 5, gav, gbv] w (ImpPost w ga gb 5) := by
  have hmu := fun W (hk : Keep (fun _ => False) w W) => impTensor_spec (hga.keepF hk) (hgb.keepF hk) (Nat.le_trans hB hk.size) gda gdb a0 b0 a8 b8
  have hda := gda.dir
  have hdb := gdb.dir
  obtain ⟨na, nn, nc, ea, en, ec, rfl⟩ := graph_form hga
  obtain ⟨na', nn', nc', ea', en', ec', rfl⟩ := graph_form hgb
  rw [hda] at *
  rw [hdb] at *
  obtain ⟨hkx, hx2, hsx⟩ := box2 (w := w) (.cells #[.bool false, .slice na nn nc, .slice ea en ec] 25 (0, 0)) (.cells #[.bool false, .slice na' nn' nc', .slice ea' en' ec'] 25 (0, 0)) (.cells #[.bool false, .slice none 0 0, .slice none 0 0] 31 (0, 0))
  have HMU := Lib.hid hmu
  have HKX := Lib.hid hkx
  have HX2 := Lib.hid hx2
  have HSX := Lib.hid hsx
  clear hmu hga hgb hda hdb hkx hx2 hsx
  go_enter Tryz.func27, Tryz.ntmps27
  go_wp2_with (first
    | (((with_reducible refine (HMU.out _ HKX.out).mono ?_); rintro e w1 hp); obtain ⟨gP, n, cP, aL, m, cL, rfl, ⟨x0, x1, x2, f0, f1, f2⟩, hy, hf⟩ := impTail HX2.out HKX.out HSX.out hp; have HY := Lib.hid hy; have HF := Lib.hid hf; clear hp hy hf))
  obtain ⟨y0, y1, y2⟩ := HY.out
  unfold st3 at HF y0 y1 y2
  generalize (((w1.setCell ⟨w.heap.size + 1 + 1, 0, none⟩ (.bool false)).setCell ⟨w.heap.size + 1 + 1, 1, none⟩ (.slice (some ⟨gP, 0, none⟩) n cP)).setCell ⟨w.heap.size + 1 + 1, 2, none⟩ (.slice aL m cL)) = wf at *
  (try simp only [Exit.inBlock, Exit.then])
  refine bodyPost_ret (by simp [results, Tryz.results27, go_sem, y0, y1, y2]; try rfl) rfl ?_
  exact HF.out
theorem productAll_spec {B k : Nat} {w : World} {ga gb : IG} {gav gbv : Value} (hk : k < 6) (hga : GraphAt B w gav ga) (hgb : GraphAt B w gbv gb) (hB : B ≤ w.heap.size) (gda : GoodU ga) (gdb : GoodU gb) (a0 : 0 < ga.nodes.length) (b0 : 0 < gb.nodes.length) (a8 : ga.nodes.length ≤ 8) (b8 : gb.nodes.length ≤ 8) :
    Calls Tryz.prog 27 #[.int .i64 (k : Int), gav, gbv] w (ImpPost w ga gb k) := by
  match k, hk with
  | 0, _ => exact productCartesian_spec hga hgb hB gda gdb a0 b0 a8 b8
  | 1, _ => exact productCoNormal_spec hga hgb hB gda gdb a0 b0 a8 b8
  | 2, _ => exact productLexi_spec hga hgb hB gda gdb a0 b0 a8 b8
  | 3, _ => exact productModular_spec hga hgb hB gda gdb a0 b0 a8 b8
  | 4, _ => exact productStrong_spec hga hgb hB gda gdb a0 b0 a8 b8
  | 5, _ => exact productTensor_spec hga hgb hB gda gdb a0 b0 a8 b8
  | k + 6, h => exact absurd h (by omega)
end Go.Proofs.YtpjaeilkjglfhaaGreat
end
/- laws.multiplies: yes. -/
section
namespace Go.Proofs.YtpjaeilkjglfhaaGreat
open Go.RowKit Go.V
def wantL : List Nat := [4, 6, 6, 2, 6, 2]
theorem mulBox (w : World) (x y z u : Obj) : ((((w.alloc x).alloc y).alloc z).alloc u).heap[w.heap.size]? = some x ∧ ((((w.alloc x).alloc y).alloc z).alloc u).heap[w.heap.size + 1]? = some y ∧ ((((w.alloc x).alloc y).alloc z).alloc u).heap[w.heap.size + 1 + 1]? = some z ∧ ((((w.alloc x).alloc y).alloc z).alloc u).heap[w.heap.size + 1 + 1 + 1]? = some u ∧ Keep (fun _ => False) w ((((w.alloc x).alloc y).alloc z).alloc u) ∧ ((((w.alloc x).alloc y).alloc z).alloc u).heap.size = w.heap.size + 4 :=
  ⟨(heap_old (by simp <;> omega)).trans ((heap_old (by simp <;> omega)).trans ((heap_old (by simp)).trans (heap_new w x))), (heap_old (by simp <;> omega)).trans ((heap_old (by simp)).trans (new_at (by simp) y)), (heap_old (by simp)).trans (new_at (by simp) z), new_at (by simp) u, ((((Keep.refl _ w).alloc x).alloc y).alloc z).alloc u, by simp⟩
theorem g78_at {W : World} {s : Nat} {t t' : TypeId} (h0 : W.heap[s]? = some (.cells #[.int .i64 7, .int .i64 8] t (0, 0))) (h1 : W.heap[s + 1]? = some (.cells #[.int .i64 7, .int .i64 8, .int .i64 0] t' (0, 0))) : GraphAt W.heap.size W (.agg #[.bool false, .slice (some ⟨s, 0, none⟩) 2 2, .slice (some ⟨s + 1, 0, none⟩) 1 1]) g78 :=
  ⟨_, _, rfl, .inr ⟨s, 0, 2, rfl, lt_of_get h0, Cells.of_heap h0, by decide, by decide⟩, .inr ⟨s + 1, 0, 1, rfl, lt_of_get h1, Cells.of_heap h1, by decide, by decide⟩⟩
def Pr78 (w : World) (k : Nat) (e : Ending) (w' : World) : Prop := ∃ gP cP aL cL, e = .returned (.tuple #[.agg #[.bool false, .slice (some ⟨gP, 0, none⟩) 4 cP, .slice aL (wantL.getD k 0) cL], .bool false]) ∧ Keep (fun _ => False) w w'
theorem product78_spec {B k : Nat} {w : World} {gav : Value} (hk : k < 6) (hga : GraphAt B w gav g78) (hB : B ≤ w.heap.size) :
    Calls Tryz.prog 27 #[.int .i64 (k : Int), gav, gav] w (Pr78 w k) := by
  refine (productAll_spec hk hga hga hB g78_good g78_good (by decide) (by decide) (by decide) (by decide)).mono ?_
  rintro e w' ⟨GA, GB, ua, ub, ra, rb, nv, lv, L, rfl, q1, q2, q3, q4, qn, ql, q5⟩
  obtain ⟨gP, cP, rfl, _⟩ := q1
  obtain ⟨aL, cL, rfl⟩ := q2.form
  have h4 : (pairsOf GA.ids GB.ids).length = 4 := by rw [g78_ids ra, g78_ids rb]; rfl
  have hc : L.length = wantL.getD k 0 := g78_count hk ra rb q3 q4
  rw [h4, hc]
  exact ⟨gP, cP, aL, cL, rfl, q5⟩
set_option maxHeartbeats 4000000 in
set_option maxRecDepth 20000 in
theorem multiplies_spec (w : World) : Calls Tryz.prog 10 #[] w fun e w' => e = .returned (.bool true) ∧ Keep (fun _ => False) w w' := by
  obtain ⟨h0, h1, h2, h3, hk, hz⟩ := mulBox w (.cells #[.int .i64 7, .int .i64 8] 3 (0, 0)) (.cells #[.int .i64 7, .int .i64 8, .int .i64 0] 72 (0, 0)) (.cells #[.bool false, .slice (some ⟨w.heap.size, 0, none⟩) 2 2, .slice (some ⟨w.heap.size + 1, 0, none⟩) 1 1] 25 (0, 0)) (.cells #[.int .i64 4, .int .i64 6, .int .i64 6, .int .i64 2, .int .i64 6, .int .i64 2] 3 (0, 0))
  have hg := g78_at h0 h1
  have HG := Lib.hid hg
  have H2 := Lib.hid h2
  have H3 := Lib.hid h3
  have HK := Lib.hid hk
  clear h0 h1 h2 h3 hk hz hg
  go_enter Tryz.func10, Tryz.ntmps10
  go_wp2_with fail
  generalize ((((w.alloc (.cells #[.int .i64 7, .int .i64 8] 3 (0, 0))).alloc (.cells #[.int .i64 7, .int .i64 8, .int .i64 0] 72 (0, 0))).alloc (.cells #[.bool false, .slice (some ⟨w.heap.size, 0, none⟩) 2 2, .slice (some ⟨w.heap.size + 1, 0, none⟩) 1 1] 25 (0, 0))).alloc (.cells #[.int .i64 4, .int .i64 6, .int .i64 6, .int .i64 2, .int .i64 6, .int .i64 2] 3 (0, 0))) = w4 at *
  generalize w.heap.size = s at *
  go_loopw [3] (fun q wr => ∃ k : Nat, q = .int .i64 (k : Int) ∧ k ≤ 6 ∧ Keep (fun _ => False) w4 wr) (fun q _ => 6 - (intOf q).toNat)
  case atStart => exact ⟨0, rfl, by omega, Keep.refl _ _⟩
  case round =>
    obtain ⟨k, rfl, hk6, hk⟩ := hrel
    have HKR := Lib.hid hk
    by_cases hlt : k < 6
    · have hpr := product78_spec hlt (HG.out.keepF hk) hk.size
      obtain ⟨g0, g1, g2, _⟩ := three (hk.get H2.out (fun h => h))
      have hw4 := hk.get H3.out (fun h => h)
      have HPR := Lib.hid hpr
      have HW4 := Lib.hid hw4
      clear hpr hw4 hk
      have hwk : ∀ W, Keep (fun _ => False) wr W → W.cell? ⟨s + 1 + 1 + 1, k, none⟩ = some (.int .i64 ((wantL.getD k 0 : Nat) : Int)) := fun W hk => by
        rw [cell_of (hk.get HW4.out (fun h => h))]
        match k, hlt with
        | 0, _ => rfl
        | 1, _ => rfl
        | 2, _ => rfl
        | 3, _ => rfl
        | 4, _ => rfl
        | 5, _ => rfl
      have HWK := Lib.hid hwk
      clear hwk
      unfold Pr78 at HPR
      generalize wantL.getD k 0 = n at *
      go_wp2_with (first | (((with_reducible refine (HPR.out).mono ?_); rintro e w5 ⟨gP, cP, aL, cL, rfl, hk5⟩); have cw := fun o => HWK.out (w5.alloc o) (hk5.alloc o); have HK5 := Lib.hid hk5; clear hk5))
      go_quiet (fail)
      all_goals (go_wp2_with fail)
      go_roundw
      case rel => exact ⟨k + 1, by go_num, by omega, ((HKR.out.trans HK5.out (fun _ _ h => h)).alloc _).drewN _⟩
      case measure => simp [intOf]; omega
    · obtain rfl : k = 6 := by omega
      go_wp2_with fail
      go_ret
      exact ⟨rfl, HK.out.trans HKR.out (fun _ _ h => h)⟩
end Go.Proofs.YtpjaeilkjglfhaaGreat
end
/- laws.FnCartesianColors: yes, whatever the two graphs. -/
section
namespace Go.Proofs.YtpjaeilkjglfhaaGreat
open Go.RowKit Go.V
theorem two_box (w : World) (x y : Obj) : ((w.alloc x).alloc y).heap[w.heap.size]? = some x ∧ ((w.alloc x).alloc y).heap[w.heap.size + 1]? = some y ∧ Keep (fun _ => False) w ((w.alloc x).alloc y) :=
  ⟨(heap_old (by simp)).trans (heap_new w x), new_at (by simp) y, ((Keep.refl _ w).alloc x).alloc y⟩
def Both (ga gb : IG) : Prop := ga.dir = gb.dir ∧ (ga.nodes.length ≤ 4 ∧ ga.edges.length ≤ 32 ∧ ga.Good) ∧ (gb.nodes.length ≤ 4 ∧ gb.edges.length ≤ 32 ∧ gb.Good)
theorem Both.a {ga gb : IG} (h : Both ga gb) (hd : ga.dir = false) : GoodU ga ∧ ga.nodes.length ≤ 4 := ⟨⟨h.2.1.2.2, hd, by have := h.2.1.1; omega, by have := h.2.1.2.1; omega⟩, h.2.1.1⟩
theorem Both.b {ga gb : IG} (h : Both ga gb) (hd : ga.dir = false) : GoodU gb ∧ gb.nodes.length ≤ 4 := ⟨⟨h.2.2.2.2, by rw [← h.1]; exact hd, by have := h.2.2.1; omega, by have := h.2.2.2.1; omega⟩, h.2.2.1⟩
def DsPost (w : World) (g : IG) (e : Ending) (w' : World) : Prop := ∃ (k : Nat) (cv : Value) (G : PG), e = .returned (.tuple #[.int .i64 (k : Int), cv, .bool false]) ∧ Reads g G ∧ Chi G.ids G.adj k ∧ Keep (fun _ => False) w w'
structure ProdIs (ga gb : IG) (GA GB : PG) (L : List Lnk) : Prop where
  ua : UG GA
  ub : UG GB
  ra : Reads ga GA
  rb : Reads gb GB
  srt : L.Pairwise llt
  mem : ∀ U V, (U, V) ∈ L ↔ U ∈ pairsOf GA.ids GB.ids ∧ V ∈ pairsOf GA.ids GB.ids ∧ plt U V ∧ RelK 0 GA.adj GB.adj U V
theorem ProdIs.len {ga gb : IG} {GA GB : PG} {L : List Lnk} (h : ProdIs ga gb GA GB L) (a4 : ga.nodes.length ≤ 4) (b4 : gb.nodes.length ≤ 4) : (pairsOf GA.ids GB.ids).length ≤ 16 := by
  rw [pairsOf_length, h.ra.ids, h.rb.ids, isort_length, isort_length]
  exact Nat.le_trans (Nat.mul_le_mul a4 b4) (by decide)
theorem ProdIs.pos {ga gb : IG} {GA GB : PG} {L : List Lnk} (h : ProdIs ga gb GA GB L) (a0 : 0 < ga.nodes.length) (b0 : 0 < gb.nodes.length) : 0 < (pairsOf GA.ids GB.ids).length := by
  rw [pairsOf_length, h.ra.ids, h.rb.ids, isort_length, isort_length]
  exact Nat.mul_pos a0 b0
theorem ProdIs.mem' {ga gb : IG} {GA GB : PG} {L : List Lnk} (h : ProdIs ga gb GA GB L) : ∀ l ∈ L, l.1 ∈ pairsOf GA.ids GB.ids ∧ l.2 ∈ pairsOf GA.ids GB.ids := fun l hl => by
  obtain ⟨U, V⟩ := l
  have := (h.mem U V).1 hl
  exact ⟨this.1, this.2.1⟩
theorem ProdIs.few {ga gb : IG} {GA GB : PG} {L : List Lnk} (h : ProdIs ga gb GA GB L) (a4 : ga.nodes.length ≤ 4) (b4 : gb.nodes.length ≤ 4) : L.length ≤ 256 := by
  have h1 := links_few h.srt h.mem'
  have h2 := h.len a4 b4
  exact Nat.le_trans h1 (Nat.le_trans (Nat.mul_le_mul h2 h2) (by decide))
theorem ProdIs.good {ga gb : IG} {GA GB : PG} {L : List Lnk} (h : ProdIs ga gb GA GB L) (a4 : ga.nodes.length ≤ 4) (b4 : gb.nodes.length ≤ 4) : GoodU (prodG (pairsOf GA.ids GB.ids) L) := by
  refine prodG_good (fun l hl => ?_) (by have := h.len a4 b4; omega) (by have := h.few a4 b4; omega)
  obtain ⟨h1, h2⟩ := h.mem' l hl
  refine ⟨h1, h2, fun e => ?_⟩
  obtain ⟨U, V⟩ := l
  have := ((h.mem U V).1 hl).2.2.1
  have e : U = V := e
  rw [e] at this
  exact plt_irrefl _ this
theorem dsP {w : World} {gv : Value} {ga gb : IG} {GA GB : PG} {L : List Lnk} (h : ProdIs ga gb GA GB L) (a4 : ga.nodes.length ≤ 4) (b4 : gb.nodes.length ≤ 4) (a0 : 0 < ga.nodes.length) (b0 : 0 < gb.nodes.length) (hg : GraphAt w.heap.size w gv (prodG (pairsOf GA.ids GB.ids) L)) :
    Calls Tryz.prog 8 #[gv] w (DsPost w (prodG (pairsOf GA.ids GB.ids) L)) :=
  implDsatur_spec hg (Nat.le_refl _) (h.good a4 b4) (by have := h.pos a0 b0; simpa [prodG, placesOf] using this) (by have := h.len a4 b4; simpa [prodG, placesOf] using this)
set_option maxHeartbeats 4000000 in
set_option maxRecDepth 20000 in
theorem law_spec {B : Nat} {w : World} {gav gbv : Value} {ga gb : IG} (hga : GraphAt B w gav ga) (hgb : GraphAt B w gbv gb) (hB : B ≤ w.heap.size) :
    Calls Tryz.prog 3 #[gav, gbv] w fun e w' => e = .returned (.bool true) ∧ Keep (fun _ => False) w w' := by
  have hza := fun W (hk : Keep (fun _ => False) w W) => zzFits_spec (hga.keepF hk)
  have hzb := fun W (hk : Keep (fun _ => False) w W) => zzFits_spec (hgb.keepF hk)
  have hpr : ∀ W (hk : Keep (fun _ => False) w W), Calls Tryz.prog 6 #[gav, gbv, .int .i64 4] W (Tells W (Both ga gb)) := fun W hk => pairs_spec (hga.keepF hk) (hgb.keepF hk)
  have hca := fun (hd : ga.dir = false) (a0 : 0 < ga.nodes.length) (b0 : 0 < gb.nodes.length) (hb : Both ga gb) W (hk : Keep (fun _ => False) w W) =>
    impCartesian_spec (hga.keepF hk) (hgb.keepF hk) (Nat.le_trans hB hk.size) (hb.a hd).1 (hb.b hd).1 a0 b0 (by have := (hb.a hd).2; omega) (by have := (hb.b hd).2; omega)
  have hda : ∀ (hd : ga.dir = false) (a0 : 0 < ga.nodes.length) (hb : Both ga gb) W (hk : Keep (fun _ => False) w W), Calls Tryz.prog 8 #[gav] W (DsPost W ga) := fun hd a0 hb W hk =>
    implDsatur_spec (hga.keepF hk) (Nat.le_trans hB hk.size) (hb.a hd).1 a0 (by have := (hb.a hd).2; omega)
  have hdb : ∀ (hd : ga.dir = false) (b0 : 0 < gb.nodes.length) (hb : Both ga gb) W (hk : Keep (fun _ => False) w W), Calls Tryz.prog 8 #[gbv] W (DsPost W gb) := fun hd b0 hb W hk =>
    implDsatur_spec (hgb.keepF hk) (Nat.le_trans hB hk.size) (hb.b hd).1 b0 (by have := (hb.b hd).2; omega)
  obtain ⟨na, nc, ea, ec, rfl, -, -⟩ := graph_lens hga
  obtain ⟨na', nc', ea', ec', rfl, -, -⟩ := graph_lens hgb
  obtain ⟨hb0, hb1, hk2⟩ := two_box w (.cells #[.bool ga.dir, .slice na ga.nodes.length nc, .slice ea ga.edges.length ec] 25 (0, 0)) (.cells #[.bool gb.dir, .slice na' gb.nodes.length nc', .slice ea' gb.edges.length ec'] 25 (0, 0))
  have hcb := fun W => boxG hb1 W
  have hcaa := fun W => boxG hb0 W
  have HZA := Lib.hid hza
  have HZB := Lib.hid hzb
  have HPR := Lib.hid hpr
  have HCART := Lib.hid hca
  have HDA := Lib.hid hda
  have HDB := Lib.hid hdb
  have HCA := Lib.hid hcaa
  have HCB := Lib.hid hcb
  have HK2 := Lib.hid hk2
  clear hza hzb hpr hca hda hdb hcaa hcb hk2 hb0 hb1 hga hgb
  generalize hn : ga.nodes.length = n at *
  generalize hn' : gb.nodes.length = n' at *
  generalize ga.edges.length = m at *
  generalize gb.edges.length = m' at *
  generalize gb.dir = dir' at *
  have HN := Lib.hid hn
  have HN' := Lib.hid hn'
  clear hn hn'
  obtain ⟨dir, hdir⟩ : ∃ d, ga.dir = d := ⟨_, rfl⟩
  rw [hdir] at HZA HPR HCART HDA HDB HCA HCB HK2 ⊢
  have HDIR := Lib.hid hdir
  clear hdir
  go_enter Tryz.func3, Tryz.ntmps3
  cases dir
  · by_cases h0 : n = 0
    · subst h0
      go_wp2_with (first
        | (((with_reducible refine (HZA.out _ HK2.out).mono ?_); rintro e w1 ⟨b1, rfl, hk1⟩); have HKA := Lib.hid hk1; obtain ⟨p0, p1, p2⟩ := HCB.out w1 hk1; obtain ⟨r0, r1, r2⟩ := HCA.out w1 hk1; clear hk1; cases b1)
        | (((with_reducible refine (HZB.out _ (HK2.out.trans HKA.out (fun _ _ h => h))).mono ?_); rintro e w2 ⟨b2, rfl, hk2⟩); clear p0 p1 p2 r0 r1 r2; have HKB := Lib.hid (HKA.out.trans hk2 (fun _ _ h => h)); obtain ⟨p0, p1, p2⟩ := HCB.out w2 HKB.out; obtain ⟨r0, r1, r2⟩ := HCA.out w2 HKB.out; clear hk2; cases b2)
        | (((with_reducible refine (HPR.out _ (HK2.out.trans HKB.out (fun _ _ h => h))).mono ?_); rintro e w3 ⟨b3, rfl, hb3, hk3⟩); clear p0 p1 p2 r0 r1 r2; have HKC := Lib.hid (HKB.out.trans hk3 (fun _ _ h => h)); obtain ⟨p0, p1, p2⟩ := HCB.out w3 HKC.out; obtain ⟨r0, r1, r2⟩ := HCA.out w3 HKC.out; clear hk3 hb3; cases b3))
      all_goals go_ret
      all_goals first
        | exact ⟨rfl, HK2.out.trans HKC.out (fun _ _ h => h)⟩
        | exact ⟨rfl, HK2.out.trans HKB.out (fun _ _ h => h)⟩
        | exact ⟨rfl, HK2.out.trans HKA.out (fun _ _ h => h)⟩
    · by_cases h0' : n' = 0
      · subst h0'
        go_wp2_with (first
          | (((with_reducible refine (HZA.out _ HK2.out).mono ?_); rintro e w1 ⟨b1, rfl, hk1⟩); have HKA := Lib.hid hk1; obtain ⟨p0, p1, p2⟩ := HCB.out w1 hk1; obtain ⟨r0, r1, r2⟩ := HCA.out w1 hk1; clear hk1; cases b1)
          | (((with_reducible refine (HZB.out _ (HK2.out.trans HKA.out (fun _ _ h => h))).mono ?_); rintro e w2 ⟨b2, rfl, hk2⟩); clear p0 p1 p2 r0 r1 r2; have HKB := Lib.hid (HKA.out.trans hk2 (fun _ _ h => h)); obtain ⟨p0, p1, p2⟩ := HCB.out w2 HKB.out; obtain ⟨r0, r1, r2⟩ := HCA.out w2 HKB.out; clear hk2; cases b2)
          | (((with_reducible refine (HPR.out _ (HK2.out.trans HKB.out (fun _ _ h => h))).mono ?_); rintro e w3 ⟨b3, rfl, hb3, hk3⟩); clear p0 p1 p2 r0 r1 r2; have HKC := Lib.hid (HKB.out.trans hk3 (fun _ _ h => h)); obtain ⟨p0, p1, p2⟩ := HCB.out w3 HKC.out; obtain ⟨r0, r1, r2⟩ := HCA.out w3 HKC.out; clear hk3 hb3; cases b3))
        all_goals go_ret
        all_goals first
          | exact ⟨rfl, HK2.out.trans HKC.out (fun _ _ h => h)⟩
          | exact ⟨rfl, HK2.out.trans HKB.out (fun _ _ h => h)⟩
          | exact ⟨rfl, HK2.out.trans HKA.out (fun _ _ h => h)⟩
      · have t1 : ((n : Int) == 0) = false := by rw [beq_eq_false_iff_ne]; omega
        have t2 : ((n' : Int) == 0) = false := by rw [beq_eq_false_iff_ne]; omega
        go_wp2_with (first
          | (((with_reducible refine (HZA.out _ HK2.out).mono ?_); rintro e w1 ⟨b1, rfl, hk1⟩); have HKA := Lib.hid hk1; obtain ⟨p0, p1, p2⟩ := HCB.out w1 hk1; obtain ⟨r0, r1, r2⟩ := HCA.out w1 hk1; clear hk1; cases b1)
          | (((with_reducible refine (HZB.out _ (HK2.out.trans HKA.out (fun _ _ h => h))).mono ?_); rintro e w2 ⟨b2, rfl, hk2⟩); clear p0 p1 p2 r0 r1 r2; have HKB := Lib.hid (HKA.out.trans hk2 (fun _ _ h => h)); obtain ⟨p0, p1, p2⟩ := HCB.out w2 HKB.out; obtain ⟨r0, r1, r2⟩ := HCA.out w2 HKB.out; clear hk2; cases b2)
          | (((with_reducible refine (HPR.out _ (HK2.out.trans HKB.out (fun _ _ h => h))).mono ?_); rintro e w3 ⟨b3, rfl, hb3, hk3⟩); clear p0 p1 p2 r0 r1 r2; have HB3 := Lib.hid hb3; have HKC := Lib.hid (HKB.out.trans hk3 (fun _ _ h => h)); obtain ⟨p0, p1, p2⟩ := HCB.out w3 HKC.out; obtain ⟨r0, r1, r2⟩ := HCA.out w3 HKC.out; clear hk3 hb3; cases b3)
          | (((with_reducible refine (HCART.out (by first | rfl | trivial) (by omega) (by omega) (HB3.out (by first | rfl | trivial)) _ (HK2.out.trans HKC.out (fun _ _ h => h))).mono ?_); rintro e w4 ⟨GA, GB, ua, ub, ra, rb, nv, lv, L, rfl, q1, q2, q3, q4, qn, ql, q5⟩); clear p0 p1 p2 r0 r1 r2; have q1a := q1; have q2a := q2; obtain ⟨gP, cP, rfl, _⟩ := q1; obtain ⟨aL, cL, rfl⟩ := q2.form; have HPI := Lib.hid (ProdIs.mk (ga := ga) (gb := gb) ua ub ra rb q3 q4); have HQ1 := Lib.hid q1a; have HQ2 := Lib.hid q2a; have HK4 := Lib.hid (HKC.out.trans q5 (fun _ _ h => h)); have HNP := Lib.hid (fun o : Obj => heap_new w4 o); have HB4 := Lib.hid (HB3.out (by first | rfl | trivial)).2.1.1; have HB4' := Lib.hid (HB3.out (by first | rfl | trivial)).2.2.1; have rr := fun o => HCA.out (w4.alloc o) (HK4.out.alloc o); clear ua ub ra rb q1a q2a q2 q3 q4 qn ql q5)
          | (((with_reducible refine (HDA.out (by first | rfl | trivial) (by omega) (HB3.out (by first | rfl | trivial)) _ ((HK2.out.trans HK4.out (fun _ _ h => h)).alloc _)).mono ?_); rintro e w6 ⟨ka, cva, GA', rfl, ra', ca, hk6⟩); clear rr; have HK6 := Lib.hid ((HK4.out.alloc _).trans hk6 (fun _ _ h => h)); have HK46 := Lib.hid (((Keep.refl (fun _ => False) w4).alloc _).trans hk6 (fun _ _ h => h)); have HXP := Lib.hid (hk6.get (HNP.out _) (fun h => h)); obtain ⟨p0, p1, p2⟩ := HCB.out w6 HK6.out; have HRA := Lib.hid ra'; have HCHA := Lib.hid ca; clear ra' ca hk6)
          | (((with_reducible refine (HDB.out (by first | rfl | trivial) (by omega) (HB3.out (by first | rfl | trivial)) _ (HK2.out.trans HK6.out (fun _ _ h => h))).mono ?_); rintro e w7 ⟨kb, cvb, GB', rfl, rb', cb, hk7⟩); clear p0 p1 p2; have HK7 := Lib.hid (HK6.out.trans hk7 (fun _ _ h => h)); have HK47 := Lib.hid (HK46.out.trans hk7 (fun _ _ h => h)); obtain ⟨x0, x1, x2, _⟩ := three (hk7.get HXP.out (fun h => h)); have HRB := Lib.hid rb'; have HCHB := Lib.hid cb; clear rb' cb hk7)
          | (((with_reducible refine (asGraph_spec (HQ1.out.keepF HK47.out) (HQ2.out.keep HK47.out (fun _ _ h => h)) (by have := HPI.out.len HB4.out HB4'.out; omega) (by have := HPI.out.few HB4.out HB4'.out; omega) HPI.out.mem').mono ?_); rintro e w8 ⟨gv, rfl, hg8, hk8⟩); have HG8 := Lib.hid hg8; have HK8 := Lib.hid (HK7.out.trans hk8 (fun _ _ h => h)); clear hg8 hk8 x0 x1 x2)
          | (((with_reducible refine (dsP HPI.out HB4.out HB4'.out (by rw [HN.out]; omega) (by rw [HN'.out]; omega) HG8.out).mono ?_); rintro e w9 ⟨kp, cvp, GP, rfl, rp', cp, hk9⟩); obtain rfl := cart_last HPI.out.ra HPI.out.rb HRA.out HRB.out HPI.out.ua HPI.out.ub (by rw [HN.out]; omega) (by rw [HN'.out]; omega) HPI.out.mem rp' HCHA.out HCHB.out cp; have HK9 := Lib.hid (HK8.out.trans hk9 (fun _ _ h => h)); clear rp' cp hk9)
          | (((with_reducible refine (multiplies_spec _).mono ?_); rintro e w10 ⟨rfl, hk10⟩); have HK10 := Lib.hid (HK9.out.trans hk10 (fun _ _ h => h)); clear hk10))
        all_goals go_ret
        all_goals first
          | exact ⟨rfl, HK2.out.trans HK10.out (fun _ _ h => h)⟩
          | exact ⟨rfl, HK2.out.trans HKC.out (fun _ _ h => h)⟩
          | exact ⟨rfl, HK2.out.trans HKB.out (fun _ _ h => h)⟩
          | exact ⟨rfl, HK2.out.trans HKA.out (fun _ _ h => h)⟩
  · go_wp2_with (first
      | (((with_reducible refine (HZA.out _ HK2.out).mono ?_); rintro e w1 ⟨b1, rfl, hk1⟩); have HKA := Lib.hid hk1; obtain ⟨p0, p1, p2⟩ := HCB.out w1 hk1; obtain ⟨r0, r1, r2⟩ := HCA.out w1 hk1; clear hk1; cases b1)
      | (((with_reducible refine (HZB.out _ (HK2.out.trans HKA.out (fun _ _ h => h))).mono ?_); rintro e w2 ⟨b2, rfl, hk2⟩); clear p0 p1 p2 r0 r1 r2; have HKB := Lib.hid (HKA.out.trans hk2 (fun _ _ h => h)); obtain ⟨p0, p1, p2⟩ := HCB.out w2 HKB.out; obtain ⟨r0, r1, r2⟩ := HCA.out w2 HKB.out; clear hk2; cases b2))
    all_goals go_ret
    all_goals first
      | exact ⟨rfl, HK2.out.trans HKB.out (fun _ _ h => h)⟩
      | exact ⟨rfl, HK2.out.trans HKA.out (fun _ _ h => h)⟩
end Go.Proofs.YtpjaeilkjglfhaaGreat
end
