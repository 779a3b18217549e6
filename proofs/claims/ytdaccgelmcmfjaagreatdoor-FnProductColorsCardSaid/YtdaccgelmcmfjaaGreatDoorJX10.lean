/- impl.LargestFirst on the graph of one edge, and laws.greedy there. -/
import Derived.Test.YtdaccgelmcmfjaaGreatDoorJDW
import Derived.Test.YtdaccgelmcmfjaaGreatDoorX6
set_option linter.all false
section
namespace Go.Proofs.YtdaccgelmcmfjaaGreatDoor
open Go.RowKit Go.V
set_option maxHeartbeats 8000000 in
set_option maxRecDepth 20000 in
theorem implLargest_spec {B : Nat} {w : World} {gv : Value} (hg : GraphAt B w gv g12) (hB : B ≤ w.heap.size) :
    Calls Tryz.prog 33 #[gv] w fun e w' => ∃ v, e = .returned (.tuple #[.int .i64 2, v, .bool false]) ∧ Both w' v ∧ Keep (fun _ => False) w w' := by
  have hb := fun W (hk : Keep (fun _ => False) w W) => bothWays_good (hg.keepF hk) (Nat.le_trans hB hk.size) g12_good
  obtain ⟨na, nc, bb, off, ec, rfl, -⟩ := g12_at hg
  have HBW := Lib.hid hb
  have hdx : ∀ B W pb G, Plain B W pb G → B ≤ W.heap.size → Reads g12 G → Calls Tryz.prog 61 #[gV pb] W fun e w' => ∃ (cb : Nat) (C : PC), e = .returned (.tuple #[.int .i64 2, .map (some cb)]) ∧ ColAt w' cb C ∧ (C.length = 2 ∧ ∃ a b : Nat, cget C 1 = some a ∧ cget C 2 = some b ∧ a ≠ b) ∧ Keep (fun _ => False) W w' := fun B W pb G hp hB hr => by
    obtain ⟨_, _, h0, h1⟩ := g12_nbr hr hp.ok
    exact rlf_spec hp hB (g12_ids hr) (by decide) h0 h1
  have hcol : ∀ (W : World) (cb : Nat) (C : PC), ColAt W cb C → (C.length = 2 ∧ ∃ a b : Nat, cget C 1 = some a ∧ cget C 2 = some b ∧ a ≠ b) → ∀ W', Keep (fun _ => False) W W' → Calls Tryz.prog 32 #[.map (some cb)] W' fun e w' => ∃ v, e = .returned v ∧ Both w' v ∧ Keep (fun _ => False) W' w' := fun W cb C hc h2 W' hk => by
    obtain ⟨hl, a, b, ha, hb, hab⟩ := h2
    refine (colorsL_spec (hc.keepF hk) (by omega) (by omega)).mono ?_
    rintro e w' ⟨v, rfl, q1, q2⟩
    exact ⟨v, rfl, ⟨a, b, colL_two q1 hc.nodup hl ha hb, by omega⟩, q2⟩
  have HDX := Lib.hid hdx
  have HCOL := Lib.hid hcol
  clear hdx hcol hb hg
  go_enter Tryz.func33, Tryz.ntmps33
  go_wp2_with (first
    | (((with_reducible refine (HBW.out _ (by repeat first | exact Keep.refl _ _ | assumption | apply Keep.alloc | apply Keep.drewN | apply Keep.drew | (refine Keep.setCell ?_ _ (fun h => absurd h (Nat.lt_irrefl _))))).mono ?_); rintro e w1 ⟨pb, G, rfl, q0, q1, q2, q3⟩); have Q0 := Lib.hid q0; have hp2 := fun (o : Obj) => q2.keepF ((Keep.refl (fun _ => False) w1).alloc o); have hsz2 : ∀ o : Obj, w1.heap.size ≤ (w1.alloc o).heap.size := fun o => (by simp); have HSZ := Lib.hid hsz2; have HP2 := Lib.hid hp2; have Q3 := Lib.hid q3; clear q0 q2 q3 hp2 hsz2)
    | (((with_reducible refine (HDX.out _ _ pb G (HP2.out _) (HSZ.out _) Q3.out).mono ?_); rintro e w3 ⟨cb, C, rfl, q4, q5, q6⟩); have Q5 := Lib.hid (HCOL.out _ _ _ q4 q5); have Q6 := Lib.hid q6; have hr3 := Keep.refl (fun _ => False) w3; have HR3 := Lib.hid hr3; clear q4 q5 q6 hr3)
    | (((with_reducible refine (Q5.out _ (Keep.refl _ _)).mono ?_); rintro e w5 ⟨v5, rfl, hb5, k5⟩); have K5 := Lib.hid k5; have HB5 := Lib.hid hb5; clear k5 hb5))
  (try simp only [Exit.inBlock, Exit.then])
  refine bodyPost_ret (by simp [results, Tryz.results33, go_sem]; try rfl) rfl ?_
  exact ⟨v5, rfl, HB5.out, (((((Keep.refl (fun _ => False) w).alloc _).trans Q0.out (fun _ _ h => h)).alloc _).trans Q6.out (fun _ _ h => h)).trans K5.out (fun _ _ h => h)⟩
set_option maxHeartbeats 8000000 in
set_option maxRecDepth 20000 in
theorem greedy_spec' {B k : Nat} {w : World} {gv : Value} (hg : GraphAt B w gv g12) (hB : B ≤ w.heap.size) (hk : k < 4) :
    Calls Tryz.prog 17 #[.int .u8 (k : Int), gv] w (Got w) := by
  have h00 : ∀ W, Keep (fun _ => False) w W → Calls Tryz.prog 34 #[.int .u8 0, gv, .slice none 0 0] W (Got W) := fun W hkk => colorings_spec (k := 0) (hg.keepF hkk) (Nat.le_trans hB hkk.size) (by decide)
  have h11 : ∀ W, Keep (fun _ => False) w W → Calls Tryz.prog 34 #[.int .u8 1, gv, .slice none 0 0] W (Got W) := fun W hkk => colorings_spec (k := 1) (hg.keepF hkk) (Nat.le_trans hB hkk.size) (by decide)
  have h22 : ∀ W, Keep (fun _ => False) w W → Calls Tryz.prog 34 #[.int .u8 2, gv, .slice none 0 0] W (Got W) := fun W hkk => colorings_spec (k := 2) (hg.keepF hkk) (Nat.le_trans hB hkk.size) (by decide)
  have h1 := fun W (hk : Keep (fun _ => False) w W) => implLargest_spec (hg.keepF hk) (Nat.le_trans hB hk.size)
  unfold Got at h00 h11 h22 ⊢
  obtain ⟨na, nc, bb, off, ec, rfl, -⟩ := g12_at hg
  have H00 := Lib.hid h00
  have H11 := Lib.hid h11
  have H22 := Lib.hid h22
  have H1 := Lib.hid h1
  clear h00 h11 h22 h1 hg
  rcases (show k = 0 ∨ k = 1 ∨ k = 2 ∨ k = 3 by omega) with rfl | rfl | rfl | rfl
  all_goals
    go_enter Tryz.func17, Tryz.ntmps17
    go_wp2_with (first
      | (((with_reducible refine (H1.out _ (by repeat first | exact Keep.refl _ _ | assumption | apply Keep.alloc | apply Keep.drewN | apply Keep.drew | (refine Keep.setCell ?_ _ (fun h => absurd h (Nat.lt_irrefl _))))).mono ?_); rintro e w1 ⟨v, rfl, hb, hk1⟩); have HB := Lib.hid hb; have HK := Lib.hid hk1; clear hb hk1)
      | (((with_reducible refine (H00.out _ (by repeat first | exact Keep.refl _ _ | assumption | apply Keep.alloc | apply Keep.drewN | apply Keep.drew | (refine Keep.setCell ?_ _ (fun h => absurd h (Nat.lt_irrefl _))))).mono ?_); rintro e w1 ⟨v, rfl, hb, hk1⟩); have HB := Lib.hid hb; have HK := Lib.hid hk1; clear hb hk1)
      | (((with_reducible refine (H11.out _ (by repeat first | exact Keep.refl _ _ | assumption | apply Keep.alloc | apply Keep.drewN | apply Keep.drew | (refine Keep.setCell ?_ _ (fun h => absurd h (Nat.lt_irrefl _))))).mono ?_); rintro e w1 ⟨v, rfl, hb, hk1⟩); have HB := Lib.hid hb; have HK := Lib.hid hk1; clear hb hk1)
      | (((with_reducible refine (H22.out _ (by repeat first | exact Keep.refl _ _ | assumption | apply Keep.alloc | apply Keep.drewN | apply Keep.drew | (refine Keep.setCell ?_ _ (fun h => absurd h (Nat.lt_irrefl _))))).mono ?_); rintro e w1 ⟨v, rfl, hb, hk1⟩); have HB := Lib.hid hb; have HK := Lib.hid hk1; clear hb hk1))
    (try simp only [Exit.inBlock, Exit.then])
    refine bodyPost_ret (by simp [results, Tryz.results17, go_sem]; try rfl) rfl ?_
    exact ⟨v, rfl, HB.out, ((Keep.refl (fun _ => False) w).alloc _).trans HK.out (fun _ _ h => h)⟩
end Go.Proofs.YtdaccgelmcmfjaaGreatDoor
end
/- laws.pale: yes. -/
section
namespace Go.Proofs.YtdaccgelmcmfjaaGreatDoor
open Go.RowKit Go.V
theorem g12_box {W : World} {s : Nat} {t t' : TypeId} (h0 : W.heap[s]? = some (.cells #[.int .i64 1, .int .i64 2] t (0, 0))) (h1 : W.heap[s + 1]? = some (.cells #[.int .i64 1, .int .i64 2, .int .i64 0] t' (0, 0))) : GraphAt W.heap.size W (.agg #[.bool false, .slice (some ⟨s, 0, none⟩) 2 2, .slice (some ⟨s + 1, 0, none⟩) 1 1]) g12 :=
  ⟨_, _, rfl, .inr ⟨s, 0, 2, rfl, lt_of_get h0, Cells.of_heap h0, by decide, by decide⟩, .inr ⟨s + 1, 0, 1, rfl, lt_of_get h1, Cells.of_heap h1, by decide, by decide⟩⟩
set_option maxHeartbeats 8000000 in
set_option maxRecDepth 20000 in
theorem pale_spec (w : World) : Calls Tryz.prog 10 #[] w fun e w' => e = .returned (.bool true) ∧ Keep (fun _ => False) w w' := by
  obtain ⟨⟨h0, h1, h2⟩, hk, hz⟩ := h3box w (.cells #[.int .i64 1, .int .i64 2] 3 (0, 0)) (.cells #[.int .i64 1, .int .i64 2, .int .i64 0] 51 (0, 0)) (.cells #[.bool false, .slice (some ⟨w.heap.size, 0, none⟩) 2 2, .slice (some ⟨w.heap.size + 1, 0, none⟩) 1 1] 25 (0, 0))
  have hg := g12_box h0 h1
  have HG := Lib.hid hg
  have H2 := Lib.hid h2
  have HK := Lib.hid hk
  clear h0 h1 h2 hk hz hg
  go_enter Tryz.func10, Tryz.ntmps10
  go_wp2_with fail
  generalize (((w.alloc (.cells #[.int .i64 1, .int .i64 2] 3 (0, 0))).alloc (.cells #[.int .i64 1, .int .i64 2, .int .i64 0] 51 (0, 0))).alloc (.cells #[.bool false, .slice (some ⟨w.heap.size, 0, none⟩) 2 2, .slice (some ⟨w.heap.size + 1, 0, none⟩) 1 1] 25 (0, 0))) = w4 at *
  generalize w.heap.size = s at *
  go_loopw [2] (fun q wr => ∃ k : Nat, q = .int .u8 (k : Int) ∧ k ≤ 4 ∧ Keep (fun _ => False) w4 wr) (fun q _ => 4 - (intOf q).toNat)
  case atStart => exact ⟨0, rfl, by omega, Keep.refl _ _⟩
  case round =>
    obtain ⟨k, rfl, hk4, hk⟩ := hrel
    have HKR := Lib.hid hk
    have hbx : ∀ W, Keep (fun _ => False) w4 W → W.cell? ⟨s + 1 + 1, 0, none⟩ = some (.bool false) ∧ W.cell? ⟨s + 1 + 1, 1, none⟩ = some (.slice (some ⟨s, 0, none⟩) 2 2) ∧ W.cell? ⟨s + 1 + 1, 2, none⟩ = some (.slice (some ⟨s + 1, 0, none⟩) 1 1) := fun W hk => boxG H2.out W hk
    have hpr : ∀ W v a b, Keep (fun _ => False) w4 W → PRow W v [(1, a), (2, b)] → a ≠ b → Calls Tryz.prog 18 #[.agg #[.bool false, .slice (some ⟨s, 0, none⟩) 2 2, .slice (some ⟨s + 1, 0, none⟩) 1 1], v] W fun e w' => e = .returned (.bool true) ∧ Keep (fun _ => False) W w' := fun W v a b hk hr hab => Proper_spec (HG.out.keepF hk) hr hab
    have HBX := Lib.hid hbx
    have HPR := Lib.hid hpr
    obtain ⟨g0, g1, g2⟩ := hbx wr hk
    clear hbx hpr
    by_cases hlt : k < 4
    · have hg0 : Calls Tryz.prog 17 #[.int .u8 0, .agg #[.bool false, .slice (some ⟨s, 0, none⟩) 2 2, .slice (some ⟨s + 1, 0, none⟩) 1 1]] wr (Got wr) := greedy_spec' (k := 0) (HG.out.keepF hk) hk.size (by decide)
      have hg1 : Calls Tryz.prog 17 #[.int .u8 1, .agg #[.bool false, .slice (some ⟨s, 0, none⟩) 2 2, .slice (some ⟨s + 1, 0, none⟩) 1 1]] wr (Got wr) := greedy_spec' (k := 1) (HG.out.keepF hk) hk.size (by decide)
      have hg2 : Calls Tryz.prog 17 #[.int .u8 2, .agg #[.bool false, .slice (some ⟨s, 0, none⟩) 2 2, .slice (some ⟨s + 1, 0, none⟩) 1 1]] wr (Got wr) := greedy_spec' (k := 2) (HG.out.keepF hk) hk.size (by decide)
      have hg3 : Calls Tryz.prog 17 #[.int .u8 3, .agg #[.bool false, .slice (some ⟨s, 0, none⟩) 2 2, .slice (some ⟨s + 1, 0, none⟩) 1 1]] wr (Got wr) := greedy_spec' (k := 3) (HG.out.keepF hk) hk.size (by decide)
      unfold Got at hg0 hg1 hg2 hg3
      have HG0 := Lib.hid hg0
      have HG1 := Lib.hid hg1
      have HG2 := Lib.hid hg2
      have HG3 := Lib.hid hg3
      clear hg0 hg1 hg2 hg3 hk
      rcases (show k = 0 ∨ k = 1 ∨ k = 2 ∨ k = 3 by omega) with rfl | rfl | rfl | rfl
      all_goals
        go_wp2_with (first
          | (((with_reducible refine (HG0.out).mono ?_); rintro e w5 ⟨v, rfl, hb, hk5⟩); obtain ⟨a, b, hr5, hab⟩ := hb; have HK5 := Lib.hid (HKR.out.trans hk5 (fun _ _ h => h)); have HP5 := Lib.hid (HPR.out _ v a b HK5.out hr5 hab); clear g0 g1 g2; obtain ⟨g0, g1, g2⟩ := HBX.out _ HK5.out; clear hk5 hr5)
          | (((with_reducible refine (HG1.out).mono ?_); rintro e w5 ⟨v, rfl, hb, hk5⟩); obtain ⟨a, b, hr5, hab⟩ := hb; have HK5 := Lib.hid (HKR.out.trans hk5 (fun _ _ h => h)); have HP5 := Lib.hid (HPR.out _ v a b HK5.out hr5 hab); clear g0 g1 g2; obtain ⟨g0, g1, g2⟩ := HBX.out _ HK5.out; clear hk5 hr5)
          | (((with_reducible refine (HG2.out).mono ?_); rintro e w5 ⟨v, rfl, hb, hk5⟩); obtain ⟨a, b, hr5, hab⟩ := hb; have HK5 := Lib.hid (HKR.out.trans hk5 (fun _ _ h => h)); have HP5 := Lib.hid (HPR.out _ v a b HK5.out hr5 hab); clear g0 g1 g2; obtain ⟨g0, g1, g2⟩ := HBX.out _ HK5.out; clear hk5 hr5)
          | (((with_reducible refine (HG3.out).mono ?_); rintro e w5 ⟨v, rfl, hb, hk5⟩); obtain ⟨a, b, hr5, hab⟩ := hb; have HK5 := Lib.hid (HKR.out.trans hk5 (fun _ _ h => h)); have HP5 := Lib.hid (HPR.out _ v a b HK5.out hr5 hab); clear g0 g1 g2; obtain ⟨g0, g1, g2⟩ := HBX.out _ HK5.out; clear hk5 hr5)
          | (((with_reducible refine (HP5.out).mono ?_); rintro e w6 ⟨rfl, hk6⟩); have HK6 := Lib.hid (HK5.out.trans hk6 (fun _ _ h => h)); clear hk6))
        first
          | exact ⟨⟨1, rfl, by decide, HK6.out⟩, by decide⟩
          | exact ⟨⟨2, rfl, by decide, HK6.out⟩, by decide⟩
          | exact ⟨⟨3, rfl, by decide, HK6.out⟩, by decide⟩
          | exact ⟨⟨4, rfl, by decide, HK6.out⟩, by decide⟩
    · obtain rfl : k = 4 := by omega
      have hex := implExact_spec (HG.out.keepF hk) hk.size
      have HEX := Lib.hid hex
      clear hex hk
      go_wp2_with (first
        | (((with_reducible refine (HEX.out).mono ?_); rintro e w5 ⟨v, rfl, hb, hk5⟩); obtain ⟨a, b, hr5, hab⟩ := hb; have HK5 := Lib.hid (HKR.out.trans hk5 (fun _ _ h => h)); have HP5 := Lib.hid (HPR.out _ v a b HK5.out hr5 hab); clear g0 g1 g2; obtain ⟨g0, g1, g2⟩ := HBX.out _ HK5.out; clear hk5 hr5)
        | (((with_reducible refine (HP5.out).mono ?_); rintro e w6 ⟨rfl, hk6⟩); have HK6 := Lib.hid (HK5.out.trans hk6 (fun _ _ h => h)); clear hk6))
      go_ret
      exact ⟨rfl, HK.out.trans HK6.out (fun _ _ h => h)⟩
end Go.Proofs.YtdaccgelmcmfjaaGreatDoor
end
