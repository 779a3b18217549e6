/- Pairs of two lists in their order; the order of pairs and of pairs of pairs (plain laws). -/
import Derived.Test.YtdaccgelmcmfjaaGreatDoorJV0
import Derived.Shelf.SlSortCmp.Insertion
set_option linter.all false
section
namespace Go.V
open Go.Proofs Go.Sort
def pairsOf (A B : List Int) : List (Int × Int) := A.flatMap fun a => B.map fun b => (a, b)
theorem pairsOf_length (A B : List Int) : (pairsOf A B).length = A.length * B.length := by
  induction A with
  | nil => simp [pairsOf]
  | cons a A ih =>
    have e : pairsOf (a :: A) B = (B.map fun b => (a, b)) ++ pairsOf A B := rfl
    rw [e, List.length_append, ih, List.length_map, List.length_cons, Nat.succ_mul, Nat.add_comm]
theorem pairsOf_get : ∀ (A B : List Int) (i j : Nat) (a b : Int), A[i]? = some a → B[j]? = some b → (pairsOf A B)[i * B.length + j]? = some (a, b)
  | [], _, _, _, _, _, h, _ => by simp at h
  | a :: A, B, 0, j, x, y, hx, hy => by
    simp at hx; subst hx
    have hj := (List.getElem?_eq_some_iff.1 hy).1
    have e : pairsOf (a :: A) B = (B.map fun b => (a, b)) ++ pairsOf A B := rfl
    rw [e, Nat.zero_mul, Nat.zero_add, List.getElem?_append_left (by simpa using hj), List.getElem?_map, hy]; rfl
  | a :: A, B, i + 1, j, x, y, hx, hy => by
    have e : pairsOf (a :: A) B = (B.map fun b => (a, b)) ++ pairsOf A B := rfl
    rw [e, List.getElem?_append_right (by rw [List.length_map, Nat.succ_mul]; omega), List.length_map, show (i + 1) * B.length + j - B.length = i * B.length + j by rw [Nat.succ_mul]; omega]
    exact pairsOf_get A B i j x y (by simpa using hx) hy
theorem mem_pairsOf {A B : List Int} {p : Int × Int} : p ∈ pairsOf A B ↔ p.1 ∈ A ∧ p.2 ∈ B := by
  unfold pairsOf
  simp only [List.mem_flatMap, List.mem_map]
  constructor
  · rintro ⟨a, ha, b, hb, rfl⟩; exact ⟨ha, hb⟩
  · rintro ⟨h1, h2⟩; exact ⟨p.1, h1, p.2, h2, rfl⟩
def sgn (x y : Int) : Int := if x < y then -1 else if y < x then 1 else 0
theorem sgn_lt {x y : Int} : sgn x y < 0 ↔ x < y := by unfold sgn; split; omega; split <;> omega
theorem sgn_gt {x y : Int} : 0 < sgn x y ↔ y < x := by unfold sgn; split; omega; split <;> omega
theorem sgn_zero {x y : Int} : sgn x y = 0 ↔ x = y := by unfold sgn; split; omega; split <;> omega
def pcmp (p q : Int × Int) : Int := if sgn p.1 q.1 = 0 then sgn p.2 q.2 else sgn p.1 q.1
abbrev Lnk := (Int × Int) × (Int × Int)
def lcmp (p q : Lnk) : Int := if pcmp p.1 q.1 = 0 then pcmp p.2 q.2 else pcmp p.1 q.1
def plt (p q : Int × Int) : Prop := p.1 < q.1 ∨ (p.1 = q.1 ∧ p.2 < q.2)
def llt (p q : Lnk) : Prop := plt p.1 q.1 ∨ (p.1 = q.1 ∧ plt p.2 q.2)
theorem pcmp_lt {p q : Int × Int} : pcmp p q < 0 ↔ plt p q := by
  unfold pcmp plt
  split
  · rename_i h; rw [sgn_lt]; rw [sgn_zero] at h; omega
  · rename_i h; rw [sgn_lt]; rw [sgn_zero] at h; omega
theorem pcmp_gt {p q : Int × Int} : 0 < pcmp p q ↔ plt q p := by
  unfold pcmp plt
  split
  · rename_i h; rw [sgn_gt]; rw [sgn_zero] at h; omega
  · rename_i h; rw [sgn_gt]; rw [sgn_zero] at h; omega
theorem pcmp_zero {p q : Int × Int} : pcmp p q = 0 ↔ p = q := by
  unfold pcmp
  split
  · rename_i h; rw [sgn_zero] at h ⊢; exact ⟨fun e => Prod.ext h e, fun e => by rw [e]⟩
  · rename_i h; exact ⟨fun e => absurd e h, fun e => by rw [e] at h; exact absurd (sgn_zero.2 rfl) h⟩
theorem lcmp_lt {p q : Lnk} : lcmp p q < 0 ↔ llt p q := by
  unfold lcmp llt
  split
  · rename_i h
    rw [pcmp_lt]; rw [pcmp_zero] at h
    constructor
    · exact fun h' => .inr ⟨h, h'⟩
    · rintro (h' | ⟨_, h'⟩)
      · rw [h] at h'; unfold plt at h'; omega
      · exact h'
  · rename_i h
    rw [pcmp_lt]
    constructor
    · exact .inl
    · rintro (h' | ⟨h', _⟩)
      · exact h'
      · exact absurd (pcmp_zero.2 h') h
theorem plt_trans {p q r : Int × Int} (h : plt p q) (h' : plt q r) : plt p r := by unfold plt at *; omega
theorem plt_irrefl (p : Int × Int) : ¬ plt p p := by unfold plt; omega
theorem plt_total (p q : Int × Int) : plt p q ∨ p = q ∨ plt q p := by
  unfold plt
  rcases Int.lt_trichotomy p.1 q.1 with h | h | h
  · exact .inl (.inl h)
  · rcases Int.lt_trichotomy p.2 q.2 with h' | h' | h'
    · exact .inl (.inr ⟨h, h'⟩)
    · exact .inr (.inl (Prod.ext h h'))
    · exact .inr (.inr (.inr ⟨h.symm, h'⟩))
  · exact .inr (.inr (.inl h))
theorem llt_trans {p q r : Lnk} (h : llt p q) (h' : llt q r) : llt p r := by
  unfold llt at *
  rcases h with h | ⟨h1, h2⟩ <;> rcases h' with h' | ⟨h3, h4⟩
  · exact .inl (plt_trans h h')
  · exact .inl (h3 ▸ h)
  · exact .inl (h1 ▸ h')
  · exact .inr ⟨h1.trans h3, plt_trans h2 h4⟩
theorem llt_irrefl (p : Lnk) : ¬ llt p p := by unfold llt; rintro (h | ⟨_, h⟩) <;> exact plt_irrefl _ h
theorem llt_total (p q : Lnk) : llt p q ∨ p = q ∨ llt q p := by
  unfold llt
  rcases plt_total p.1 q.1 with h | h | h
  · exact .inl (.inl h)
  · rcases plt_total p.2 q.2 with h' | h' | h'
    · exact .inl (.inr ⟨h, h'⟩)
    · exact .inr (.inl (Prod.ext h h'))
    · exact .inr (.inr (.inr ⟨h.symm, h'⟩))
  · exact .inr (.inr (.inl h))
theorem swo_of {α : Type} [Inhabited α] (cf : α → α → Int) (lt : α → α → Prop) (hlt : ∀ x y, cf x y < 0 ↔ lt x y) (ht : ∀ x y z, lt x y → lt y z → lt x z) (hi : ∀ x, ¬ lt x x) (htot : ∀ x y, lt x y ∨ x = y ∨ lt y x) : SWO (ltOf cf) where
  irrefl x := by unfold ltOf; simp only [decide_eq_false_iff_not, hlt]; exact hi x
  trans x y z h1 h2 := by unfold ltOf at *; simp only [decide_eq_true_eq, hlt] at *; exact ht x y z h1 h2
  ntrans x y z h1 h2 := by
    unfold ltOf at *
    simp only [decide_eq_false_iff_not, hlt] at *
    intro h
    rcases htot y x with h3 | h3 | h3
    · exact h2 (ht _ _ _ h3 h)
    · subst h3; exact h2 h
    · exact h1 h3
theorem eq_of_ltOf {α : Type} [Inhabited α] (cf : α → α → Int) (lt : α → α → Prop) (hlt : ∀ x y, cf x y < 0 ↔ lt x y) (htot : ∀ x y, lt x y ∨ x = y ∨ lt y x) (x y : α) (h1 : (ltOf cf) x y = false) (h2 : (ltOf cf) y x = false) : x = y := by
  unfold ltOf at *
  simp only [decide_eq_false_iff_not, hlt] at *
  rcases htot x y with h | h | h
  · exact absurd h h1
  · exact h
  · exact absurd h h2
theorem msort_perm {α : Type} [Inhabited α] (cf : α → α → Int) (l : List α) : (l.mergeSort fun x y => !(ltOf cf) y x).Perm l := List.mergeSort_perm _ _
theorem msort_sorted {α : Type} [Inhabited α] (cf : α → α → Int) (lt : α → α → Prop) (hlt : ∀ x y, cf x y < 0 ↔ lt x y) (ht : ∀ x y z, lt x y → lt y z → lt x z) (hi : ∀ x, ¬ lt x x) (htot : ∀ x y, lt x y ∨ x = y ∨ lt y x) (l : List α) :
    (l.mergeSort fun x y => !(ltOf cf) y x).Pairwise fun x y => lt x y ∨ x = y := by
  have := List.pairwise_mergeSort (le := fun x y => !(ltOf cf) y x) (fun a b c h1 h2 => by
    unfold ltOf at *; simp only [Bool.not_eq_true', decide_eq_false_iff_not, hlt] at *
    intro h
    rcases htot b a with h3 | h3 | h3
    · exact h1 h3
    · subst h3; exact h2 h
    · exact h2 (ht _ _ _ h h3)) (fun a b => by
    unfold ltOf; simp only [Bool.or_eq_true, Bool.not_eq_true', decide_eq_false_iff_not, hlt]
    by_cases h : lt b a
    · right; intro h'; exact hi _ (ht _ _ _ h h')
    · exact .inl h) l
  refine this.imp fun {a b} h => ?_
  unfold ltOf at h; simp only [Bool.not_eq_true', decide_eq_false_iff_not, hlt] at h
  rcases htot a b with h3 | h3 | h3
  · exact .inl h3
  · exact .inr h3
  · exact absurd h3 h
theorem msort_id {α : Type} [Inhabited α] (cf : α → α → Int) (lt : α → α → Prop) (hlt : ∀ x y, cf x y < 0 ↔ lt x y) (ht : ∀ x y z, lt x y → lt y z → lt x z) (hi : ∀ x, ¬ lt x x) (htot : ∀ x y, lt x y ∨ x = y ∨ lt y x) (l : List α) (hs : l.Pairwise fun x y => lt x y) :
    (l.mergeSort fun x y => !(ltOf cf) y x) = l := by
  have h1 := msort_sorted cf lt hlt ht hi htot l
  refine List.Perm.eq_of_pairwise (le := fun x y => lt x y ∨ x = y) (fun a b _ _ h h' => ?_) h1 (hs.imp fun h => .inl h) (msort_perm cf l)
  rcases h with h | h
  · rcases h' with h' | h'
    · exact absurd (ht _ _ _ h h') (hi _)
    · exact h'.symm
  · exact h
theorem pairsOf_sorted : ∀ (A B : List Int), A.Pairwise (· < ·) → B.Pairwise (· < ·) → (pairsOf A B).Pairwise plt
  | [], _, _, _ => by simp [pairsOf]
  | a :: A, B, hA, hB => by
    have e : pairsOf (a :: A) B = (B.map fun b => (a, b)) ++ pairsOf A B := rfl
    rw [e, List.pairwise_append]
    rw [List.pairwise_cons] at hA
    refine ⟨?_, pairsOf_sorted A B hA.2 hB, fun p hp q hq => ?_⟩
    · rw [List.pairwise_map]; exact hB.imp fun h => .inr ⟨rfl, h⟩
    · obtain ⟨b, hb, rfl⟩ := List.mem_map.1 hp
      exact .inl (hA.1 _ (mem_pairsOf.1 hq).1)
end Go.V
end
/- The six products' edges, and how many the products of one edge with itself have (plain laws). -/
section
namespace Go.V
def RelK (k : Nat) (ra rb : Int → Int → Prop) (p q : Int × Int) : Prop :=
  match k with
  | 0 => (p.1 = q.1 ∧ rb p.2 q.2) ∨ (ra p.1 q.1 ∧ p.2 = q.2)
  | 1 => ra p.1 q.1 ∨ rb p.2 q.2
  | 2 => ra p.1 q.1 ∨ (p.1 = q.1 ∧ rb p.2 q.2)
  | 3 => p.1 ≠ q.1 ∧ p.2 ≠ q.2 ∧ (ra p.1 q.1 ↔ rb p.2 q.2)
  | 4 => (p.1 = q.1 ∧ rb p.2 q.2) ∨ (ra p.1 q.1 ∧ p.2 = q.2) ∨ (ra p.1 q.1 ∧ rb p.2 q.2)
  | _ => ra p.1 q.1 ∧ rb p.2 q.2
theorem RelK.symm {k : Nat} {ra rb : Int → Int → Prop} (ha : ∀ u v, ra u v → ra v u) (hb : ∀ u v, rb u v → rb v u) {p q : Int × Int} (h : RelK k ra rb p q) : RelK k ra rb q p := by
  rcases k with _ | _ | _ | _ | _ | k
  · have h : (p.1 = q.1 ∧ rb p.2 q.2) ∨ (ra p.1 q.1 ∧ p.2 = q.2) := h
    show (q.1 = p.1 ∧ rb q.2 p.2) ∨ (ra q.1 p.1 ∧ q.2 = p.2)
    rcases h with ⟨h1, h2⟩ | ⟨h1, h2⟩
    · exact .inl ⟨h1.symm, hb _ _ h2⟩
    · exact .inr ⟨ha _ _ h1, h2.symm⟩
  · have h : ra p.1 q.1 ∨ rb p.2 q.2 := h
    show ra q.1 p.1 ∨ rb q.2 p.2
    rcases h with h | h
    · exact .inl (ha _ _ h)
    · exact .inr (hb _ _ h)
  · have h : ra p.1 q.1 ∨ (p.1 = q.1 ∧ rb p.2 q.2) := h
    show ra q.1 p.1 ∨ (q.1 = p.1 ∧ rb q.2 p.2)
    rcases h with h | ⟨h1, h2⟩
    · exact .inl (ha _ _ h)
    · exact .inr ⟨h1.symm, hb _ _ h2⟩
  · have h : p.1 ≠ q.1 ∧ p.2 ≠ q.2 ∧ (ra p.1 q.1 ↔ rb p.2 q.2) := h
    exact ⟨Ne.symm h.1, Ne.symm h.2.1, ⟨fun h' => hb _ _ (h.2.2.1 (ha _ _ h')), fun h' => ha _ _ (h.2.2.2 (hb _ _ h'))⟩⟩
  · have h : (p.1 = q.1 ∧ rb p.2 q.2) ∨ (ra p.1 q.1 ∧ p.2 = q.2) ∨ (ra p.1 q.1 ∧ rb p.2 q.2) := h
    show (q.1 = p.1 ∧ rb q.2 p.2) ∨ (ra q.1 p.1 ∧ q.2 = p.2) ∨ (ra q.1 p.1 ∧ rb q.2 p.2)
    rcases h with ⟨h1, h2⟩ | ⟨h1, h2⟩ | ⟨h1, h2⟩
    · exact .inl ⟨h1.symm, hb _ _ h2⟩
    · exact .inr (.inl ⟨ha _ _ h1, h2.symm⟩)
    · exact .inr (.inr ⟨ha _ _ h1, hb _ _ h2⟩)
  · have h : ra p.1 q.1 ∧ rb p.2 q.2 := h
    exact ⟨ha _ _ h.1, hb _ _ h.2⟩
theorem RelK.irrefl {k : Nat} {ra rb : Int → Int → Prop} (ha : ∀ u, ¬ ra u u) (hb : ∀ u, ¬ rb u u) (p : Int × Int) : ¬ RelK k ra rb p p := by
  unfold RelK
  split <;> simp [ha, hb]
def p2 : List (Int × Int) := [(7, 7), (7, 8), (8, 7), (8, 8)]
def r2 (u v : Int) : Prop := (u = 7 ∧ v = 8) ∨ (u = 8 ∧ v = 7)
instance (u v : Int) : Decidable (r2 u v) := by unfold r2; infer_instance
instance (p q : Int × Int) : Decidable (plt p q) := by unfold plt; infer_instance
instance (p q : Lnk) : Decidable (llt p q) := by unfold llt; infer_instance
instance (k : Nat) (p q : Int × Int) : Decidable (RelK k r2 r2 p q) := by unfold RelK; split <;> infer_instance
end Go.V
end
/- The edges of the six products, in the order in which they are laid (plain laws). -/
section
namespace Go.V
section
variable (A B : List Int) (na nb : Int → List Int)
def eB (a b : Int) : List Lnk := (nb b).map fun v => ((a, b), (a, v))
def eA (a b : Int) : List Lnk := (na a).map fun u => ((a, b), (u, b))
def eAB (a u b : Int) : List Lnk := (nb b).map fun v => ((a, b), (u, v))
def eAll (a u : Int) : List Lnk := (pairsOf B B).map fun p => ((a, p.1), (u, p.2))
def eAllB (b v : Int) : List Lnk := (pairsOf A A).map fun p => ((p.1, b), (p.2, v))
def eCart : List Lnk := A.flatMap fun a => B.flatMap fun b => eB nb a b ++ eA na a b
def eTens : List Lnk := A.flatMap fun a => (na a).flatMap fun u => B.flatMap fun b => eAB nb a u b
def eLex : List Lnk := A.flatMap fun a => ((na a).flatMap fun u => eAll B a u) ++ B.flatMap fun b => eB nb a b
def eStrong : List Lnk := A.flatMap fun a => (B.flatMap fun b => eB nb a b ++ eA na a b) ++ (na a).flatMap fun u => B.flatMap fun b => eAB nb a u b
def eCoN : List Lnk := (A.flatMap fun a => (na a).flatMap fun u => eAll B a u) ++ B.flatMap fun b => (nb b).flatMap fun v => eAllB A b v
def modOk (u v : Int × Int) : Bool := (u.1 != v.1) && (u.2 != v.2) && (decide (v.1 ∈ na u.1) == decide (v.2 ∈ nb u.2))
def eModU (P : List (Int × Int)) (u : Int × Int) : List Lnk := (P.filter fun v => modOk na nb u v).map fun v => (u, v)
def eMod : List Lnk := (pairsOf A B).flatMap fun u => eModU na nb (pairsOf A B) u
def eK (k : Nat) : List Lnk :=
  match k with
  | 0 => eCart A B na nb
  | 1 => eCoN A B na nb
  | 2 => eLex A B na nb
  | 3 => eMod A B na nb
  | 4 => eStrong A B na nb
  | _ => eTens A B na nb
end
section
variable {A B : List Int} {na nb : Int → List Int} {ra rb : Int → Int → Prop}
theorem mem_eB {a b : Int} {x : Lnk} : x ∈ eB nb a b ↔ ∃ v ∈ nb b, ((a, b), (a, v)) = x := List.mem_map
theorem mem_eA {a b : Int} {x : Lnk} : x ∈ eA na a b ↔ ∃ u ∈ na a, ((a, b), (u, b)) = x := List.mem_map
theorem mem_eAB {a u b : Int} {x : Lnk} : x ∈ eAB nb a u b ↔ ∃ v ∈ nb b, ((a, b), (u, v)) = x := List.mem_map
theorem mem_eAll {a u : Int} {x : Lnk} : x ∈ eAll B a u ↔ ∃ p ∈ pairsOf B B, ((a, p.1), (u, p.2)) = x := List.mem_map
theorem mem_eAllB {b v : Int} {x : Lnk} : x ∈ eAllB A b v ↔ ∃ p ∈ pairsOf A A, ((p.1, b), (p.2, v)) = x := List.mem_map
theorem mem_eK (ha : ∀ a ∈ A, ∀ u, u ∈ na a ↔ ra a u) (hb : ∀ b ∈ B, ∀ v, v ∈ nb b ↔ rb b v) (hA : ∀ a u, ra a u → a ∈ A ∧ u ∈ A) (hB : ∀ b v, rb b v → b ∈ B ∧ v ∈ B) (k : Nat) (U V : Int × Int) :
    (U, V) ∈ eK A B na nb k ↔ U ∈ pairsOf A B ∧ V ∈ pairsOf A B ∧ RelK k ra rb U V := by
  rw [mem_pairsOf, mem_pairsOf]
  obtain ⟨a, b⟩ := U
  obtain ⟨c, d⟩ := V
  have hna : ∀ u, a ∈ A → (u ∈ na a ↔ ra a u) := fun u h => ha a h u
  have hnb : ∀ v, b ∈ B → (v ∈ nb b ↔ rb b v) := fun v h => hb b h v
  rcases k with _ | _ | _ | _ | _ | k
  · show _ ∈ eCart A B na nb ↔ (a ∈ A ∧ b ∈ B) ∧ (c ∈ A ∧ d ∈ B) ∧ ((a = c ∧ rb b d) ∨ (ra a c ∧ b = d))
    unfold eCart
    simp only [List.mem_flatMap, List.mem_append, mem_eB, mem_eA, Prod.mk.injEq]
    constructor
    · rintro ⟨a', h1, b', h2, ⟨v, h3, ⟨rfl, rfl⟩, rfl, rfl⟩ | ⟨u, h3, ⟨rfl, rfl⟩, rfl, rfl⟩⟩
      · have := (hnb v h2).1 h3
        exact ⟨⟨h1, h2⟩, ⟨h1, (hB _ _ this).2⟩, .inl ⟨rfl, this⟩⟩
      · have := (hna u h1).1 h3
        exact ⟨⟨h1, h2⟩, ⟨(hA _ _ this).2, h2⟩, .inr ⟨this, rfl⟩⟩
    · rintro ⟨⟨h1, h2⟩, ⟨h3, h4⟩, ⟨rfl, h5⟩ | ⟨h5, rfl⟩⟩
      · exact ⟨a, h1, b, h2, .inl ⟨d, (hnb d h2).2 h5, ⟨rfl, rfl⟩, rfl, rfl⟩⟩
      · exact ⟨a, h1, b, h2, .inr ⟨c, (hna c h1).2 h5, ⟨rfl, rfl⟩, rfl, rfl⟩⟩
  · show _ ∈ eCoN A B na nb ↔ (a ∈ A ∧ b ∈ B) ∧ (c ∈ A ∧ d ∈ B) ∧ (ra a c ∨ rb b d)
    unfold eCoN
    simp only [List.mem_flatMap, List.mem_append, mem_eAll, mem_eAllB, mem_pairsOf, Prod.mk.injEq]
    constructor
    · rintro (⟨a', h1, u, h2, p, ⟨h3, h4⟩, ⟨rfl, rfl⟩, rfl, rfl⟩ | ⟨b', h1, v, h2, p, ⟨h3, h4⟩, ⟨rfl, rfl⟩, rfl, rfl⟩)
      · have := (hna _ h1).1 h2
        exact ⟨⟨h1, h3⟩, ⟨(hA _ _ this).2, h4⟩, .inl this⟩
      · have := (hnb _ h1).1 h2
        exact ⟨⟨h3, h1⟩, ⟨h4, (hB _ _ this).2⟩, .inr this⟩
    · rintro ⟨⟨h1, h2⟩, ⟨h3, h4⟩, h5 | h5⟩
      · exact .inl ⟨a, h1, c, (hna _ h1).2 h5, (b, d), ⟨h2, h4⟩, ⟨rfl, rfl⟩, rfl, rfl⟩
      · exact .inr ⟨b, h2, d, (hnb _ h2).2 h5, (a, c), ⟨h1, h3⟩, ⟨rfl, rfl⟩, rfl, rfl⟩
  · show _ ∈ eLex A B na nb ↔ (a ∈ A ∧ b ∈ B) ∧ (c ∈ A ∧ d ∈ B) ∧ (ra a c ∨ (a = c ∧ rb b d))
    unfold eLex
    simp only [List.mem_flatMap, List.mem_append, mem_eAll, mem_eB, mem_pairsOf, Prod.mk.injEq]
    constructor
    · rintro ⟨a', h1, ⟨u, h2, p, ⟨h3, h4⟩, ⟨rfl, rfl⟩, rfl, rfl⟩ | ⟨b', h2, v, h3, ⟨rfl, rfl⟩, rfl, rfl⟩⟩
      · have := (hna _ h1).1 h2
        exact ⟨⟨h1, h3⟩, ⟨(hA _ _ this).2, h4⟩, .inl this⟩
      · have := (hnb _ h2).1 h3
        exact ⟨⟨h1, h2⟩, ⟨h1, (hB _ _ this).2⟩, .inr ⟨rfl, this⟩⟩
    · rintro ⟨⟨h1, h2⟩, ⟨h3, h4⟩, h5 | ⟨rfl, h5⟩⟩
      · exact ⟨a, h1, .inl ⟨c, (hna _ h1).2 h5, (b, d), ⟨h2, h4⟩, ⟨rfl, rfl⟩, rfl, rfl⟩⟩
      · exact ⟨a, h1, .inr ⟨b, h2, d, (hnb _ h2).2 h5, ⟨rfl, rfl⟩, rfl, rfl⟩⟩
  · show _ ∈ eMod A B na nb ↔ (a ∈ A ∧ b ∈ B) ∧ (c ∈ A ∧ d ∈ B) ∧ (a ≠ c ∧ b ≠ d ∧ (ra a c ↔ rb b d))
    unfold eMod eModU modOk
    simp only [List.mem_flatMap, List.mem_map, List.mem_filter, mem_pairsOf, Prod.mk.injEq, Bool.and_eq_true, bne_iff_ne, ne_eq, beq_iff_eq, decide_eq_decide]
    constructor
    · rintro ⟨p, ⟨h1, h2⟩, q, ⟨⟨h3, h4⟩, ⟨h5, h6⟩, h7⟩, rfl, rfl⟩
      refine ⟨⟨h1, h2⟩, ⟨h3, h4⟩, h5, h6, ?_⟩
      rw [← hna _ h1, ← hnb _ h2]; exact h7
    · rintro ⟨⟨h1, h2⟩, ⟨h3, h4⟩, h5, h6, h7⟩
      refine ⟨(a, b), ⟨h1, h2⟩, (c, d), ⟨⟨h3, h4⟩, ⟨h5, h6⟩, ?_⟩, rfl, rfl⟩
      show c ∈ na a ↔ d ∈ nb b
      rw [hna _ h1, hnb _ h2]; exact h7
  · show _ ∈ eStrong A B na nb ↔ (a ∈ A ∧ b ∈ B) ∧ (c ∈ A ∧ d ∈ B) ∧ ((a = c ∧ rb b d) ∨ (ra a c ∧ b = d) ∨ (ra a c ∧ rb b d))
    unfold eStrong
    simp only [List.mem_flatMap, List.mem_append, mem_eB, mem_eA, mem_eAB, Prod.mk.injEq]
    constructor
    · rintro ⟨a', h1, ⟨b', h2, ⟨v, h3, ⟨rfl, rfl⟩, rfl, rfl⟩ | ⟨u, h3, ⟨rfl, rfl⟩, rfl, rfl⟩⟩ | ⟨u, h2, b', h3, v, h4, ⟨rfl, rfl⟩, rfl, rfl⟩⟩
      · have := (hnb v h2).1 h3
        exact ⟨⟨h1, h2⟩, ⟨h1, (hB _ _ this).2⟩, .inl ⟨rfl, this⟩⟩
      · have := (hna u h1).1 h3
        exact ⟨⟨h1, h2⟩, ⟨(hA _ _ this).2, h2⟩, .inr (.inl ⟨this, rfl⟩)⟩
      · have t1 := (hna u h1).1 h2
        have t2 := (hnb v h3).1 h4
        exact ⟨⟨h1, h3⟩, ⟨(hA _ _ t1).2, (hB _ _ t2).2⟩, .inr (.inr ⟨t1, t2⟩)⟩
    · rintro ⟨⟨h1, h2⟩, ⟨h3, h4⟩, ⟨rfl, h5⟩ | ⟨h5, rfl⟩ | ⟨h5, h6⟩⟩
      · exact ⟨a, h1, .inl ⟨b, h2, .inl ⟨d, (hnb d h2).2 h5, ⟨rfl, rfl⟩, rfl, rfl⟩⟩⟩
      · exact ⟨a, h1, .inl ⟨b, h2, .inr ⟨c, (hna c h1).2 h5, ⟨rfl, rfl⟩, rfl, rfl⟩⟩⟩
      · exact ⟨a, h1, .inr ⟨c, (hna c h1).2 h5, b, h2, d, (hnb d h2).2 h6, ⟨rfl, rfl⟩, rfl, rfl⟩⟩
  · show _ ∈ eTens A B na nb ↔ (a ∈ A ∧ b ∈ B) ∧ (c ∈ A ∧ d ∈ B) ∧ (ra a c ∧ rb b d)
    unfold eTens
    simp only [List.mem_flatMap, mem_eAB, Prod.mk.injEq]
    constructor
    · rintro ⟨a', h1, u, h2, b', h3, v, h4, ⟨rfl, rfl⟩, rfl, rfl⟩
      have t1 := (hna u h1).1 h2
      have t2 := (hnb v h3).1 h4
      exact ⟨⟨h1, h3⟩, ⟨(hA _ _ t1).2, (hB _ _ t2).2⟩, t1, t2⟩
    · rintro ⟨⟨h1, h2⟩, ⟨h3, h4⟩, h5, h6⟩
      exact ⟨a, h1, c, (hna c h1).2 h5, b, h2, d, (hnb d h2).2 h6, ⟨rfl, rfl⟩, rfl, rfl⟩
end
def ordL (l : Lnk) : Lnk := if 0 < pcmp l.1 l.2 then (l.2, l.1) else l
theorem mem_ordL {E : List Lnk} {P : List (Int × Int)} {R : Int × Int → Int × Int → Prop} (hE : ∀ U V, (U, V) ∈ E ↔ U ∈ P ∧ V ∈ P ∧ R U V) (hs : ∀ U V, R U V → R V U) (hi : ∀ U, ¬ R U U) (U V : Int × Int) :
    (U, V) ∈ E.map ordL ↔ U ∈ P ∧ V ∈ P ∧ plt U V ∧ R U V := by
  rw [List.mem_map]
  constructor
  · rintro ⟨⟨X, Y⟩, h, e⟩
    obtain ⟨h1, h2, h3⟩ := (hE X Y).1 h
    unfold ordL at e
    by_cases hg : 0 < pcmp X Y
    · rw [if_pos hg] at e
      cases e
      exact ⟨h2, h1, pcmp_gt.1 hg, hs _ _ h3⟩
    · rw [if_neg hg] at e
      cases e
      refine ⟨h1, h2, ?_, h3⟩
      rw [← pcmp_lt]
      have : pcmp U V ≠ 0 := fun h0 => hi U (by have := pcmp_zero.1 h0; rw [← this] at h3; exact h3)
      omega
  · rintro ⟨h1, h2, h3, h4⟩
    refine ⟨(U, V), (hE U V).2 ⟨h1, h2, h4⟩, ?_⟩
    unfold ordL
    rw [if_neg (show ¬ 0 < pcmp U V by have := pcmp_lt.2 h3; omega)]
theorem pairsOf_nodup {A B : List Int} (hA : A.Nodup) (hB : B.Nodup) : (pairsOf A B).Nodup := by
  induction A with
  | nil => exact List.nodup_nil
  | cons a A ih =>
    rw [List.nodup_cons] at hA
    have e : pairsOf (a :: A) B = (B.map fun b => (a, b)) ++ pairsOf A B := rfl
    rw [e, List.nodup_append]
    refine ⟨?_, ih hA.2, ?_⟩
    · exact List.Pairwise.map _ (fun x y h e => h (by cases e; rfl)) hB
    · intro x hx y hy exy
      obtain ⟨b, _, rfl⟩ := List.mem_map.1 hx
      exact hA.1 (by have := (mem_pairsOf.1 hy).1; rw [← exy] at this; exact this)
theorem pairsOf_idx {A B : List Int} (hA : A.Nodup) (hB : B.Nodup) {i j : Nat} {a b : Int} (ha : A[i]? = some a) (hb : B[j]? = some b) : (pairsOf A B).idxOf (a, b) = i * B.length + j := by
  have h := pairsOf_get A B i j a b ha hb
  obtain ⟨h1, h2⟩ := List.getElem?_eq_some_iff.1 h
  rw [← h2]
  exact (pairsOf_nodup hA hB).idxOf_getElem _ h1
end Go.V
end
/- The Cartesian product as a graph of the places of its pairs: as many colours as the one needs that needs more (plain law). -/
section
namespace Go.V
def pr (P : List (Int × Int)) (i : Int) : Int × Int := P.getD i.toNat (0, 0)
def placesOf (P : List (Int × Int)) : List Int := (List.range P.length).map fun (i : Nat) => (i : Int)
theorem mem_placesOf {P : List (Int × Int)} {u : Int} : u ∈ placesOf P ↔ ∃ i : Nat, i < P.length ∧ u = (i : Int) := by
  unfold placesOf
  simp only [List.mem_map, List.mem_range]
  constructor
  · rintro ⟨i, h1, h2⟩; exact ⟨i, h1, h2.symm⟩
  · rintro ⟨i, h1, h2⟩; exact ⟨i, h1, h2.symm⟩
theorem placesOf_nodup (P : List (Int × Int)) : (placesOf P).Nodup := by
  unfold placesOf
  exact List.Pairwise.map (R := fun (a b : Nat) => a ≠ b) _ (fun a b h e => h (by omega)) List.nodup_range
def adjL (P : List (Int × Int)) (L : List Lnk) (u v : Int) : Prop := ∃ l ∈ L, ((P.idxOf l.1 : Int) = u ∧ (P.idxOf l.2 : Int) = v) ∨ ((P.idxOf l.1 : Int) = v ∧ (P.idxOf l.2 : Int) = u)
theorem pr_idx {P : List (Int × Int)} {x : Int × Int} (h : x ∈ P) : pr P (P.idxOf x : Int) = x := by
  unfold pr
  rw [Int.toNat_natCast, List.getD_eq_getElem?_getD, List.getElem?_eq_getElem (List.idxOf_lt_length_iff.2 h), List.getElem_idxOf]; rfl
theorem idx_pr {P : List (Int × Int)} (hn : P.Nodup) {i : Nat} (h : i < P.length) : P.idxOf (pr P (i : Int)) = i := by
  unfold pr
  rw [Int.toNat_natCast, List.getD_eq_getElem?_getD, List.getElem?_eq_getElem h]
  exact hn.idxOf_getElem _ h
theorem pr_mem {P : List (Int × Int)} {i : Nat} (h : i < P.length) : pr P (i : Int) ∈ P := by
  unfold pr
  rw [Int.toNat_natCast, List.getD_eq_getElem?_getD, List.getElem?_eq_getElem h]
  exact List.getElem_mem h
theorem adjL_iff {P : List (Int × Int)} {L : List Lnk} {R : Int × Int → Int × Int → Prop} (hn : P.Nodup) (hs : ∀ U V, R U V → R V U) (hi : ∀ U, ¬ R U U) (hL : ∀ U V, (U, V) ∈ L ↔ U ∈ P ∧ V ∈ P ∧ plt U V ∧ R U V)
    {u v : Int} (hu : u ∈ placesOf P) (hv : v ∈ placesOf P) : adjL P L u v ↔ R (pr P u) (pr P v) := by
  obtain ⟨i, hi', rfl⟩ := mem_placesOf.1 hu
  obtain ⟨j, hj', rfl⟩ := mem_placesOf.1 hv
  constructor
  · rintro ⟨⟨U, V⟩, hl, h⟩
    obtain ⟨h1, h2, _, h4⟩ := (hL U V).1 hl
    rcases h with ⟨e1, e2⟩ | ⟨e1, e2⟩
    · rw [← e1, ← e2, pr_idx h1, pr_idx h2]; exact h4
    · rw [← e1, ← e2, pr_idx h1, pr_idx h2]; exact hs _ _ h4
  · intro h
    rcases plt_total (pr P i) (pr P j) with h1 | h1 | h1
    · exact ⟨(pr P i, pr P j), (hL _ _).2 ⟨pr_mem hi', pr_mem hj', h1, h⟩, .inl ⟨by rw [idx_pr hn hi'], by rw [idx_pr hn hj']⟩⟩
    · rw [h1] at h; exact absurd h (hi _)
    · exact ⟨(pr P j, pr P i), (hL _ _).2 ⟨pr_mem hj', pr_mem hi', h1, hs _ _ h⟩, .inr ⟨by rw [idx_pr hn hj'], by rw [idx_pr hn hi']⟩⟩
end Go.V
end
/- How many edges the products lay at the most (plain law). -/
section
namespace Go.V
theorem flat_le {α β : Type} {l : List α} {f : α → List β} {n c : Nat} (hl : l.length ≤ n) (h : ∀ x ∈ l, (f x).length ≤ c) : (l.flatMap f).length ≤ n * c := by
  refine Nat.le_trans ?_ (Nat.mul_le_mul_right c hl)
  clear hl
  induction l with
  | nil => simp
  | cons x l ih =>
    rw [List.flatMap_cons, List.length_append, List.length_cons, Nat.succ_mul]
    have h1 := h x (by simp)
    have h2 := ih (fun y hy => h y (by simp [hy]))
    omega
theorem eK_len {A B : List Int} {na nb : Int → List Int} (hA : A.length ≤ 8) (hB : B.length ≤ 8) (ha : ∀ a ∈ A, (na a).length ≤ 8) (hb : ∀ b ∈ B, (nb b).length ≤ 8) (k : Nat) : (eK A B na nb k).length ≤ 10000 := by
  have lB : ∀ a, ∀ b ∈ B, (eB nb a b).length ≤ 8 := fun a b h => by unfold eB; rw [List.length_map]; exact hb b h
  have lA : ∀ b, ∀ a ∈ A, (eA na a b).length ≤ 8 := fun b a h => by unfold eA; rw [List.length_map]; exact ha a h
  have lAB : ∀ a u, ∀ b ∈ B, (eAB nb a u b).length ≤ 8 := fun a u b h => by unfold eAB; rw [List.length_map]; exact hb b h
  have pA : (pairsOf A A).length ≤ 64 := by rw [pairsOf_length]; exact Nat.le_trans (Nat.mul_le_mul hA hA) (by decide)
  have pB : (pairsOf B B).length ≤ 64 := by rw [pairsOf_length]; exact Nat.le_trans (Nat.mul_le_mul hB hB) (by decide)
  have pP : (pairsOf A B).length ≤ 64 := by rw [pairsOf_length]; exact Nat.le_trans (Nat.mul_le_mul hA hB) (by decide)
  have lAll : ∀ a u, (eAll B a u).length ≤ 64 := fun a u => by unfold eAll; rw [List.length_map]; exact pB
  have lAllB : ∀ b v, (eAllB A b v).length ≤ 64 := fun b v => by unfold eAllB; rw [List.length_map]; exact pA
  rcases k with _ | _ | _ | _ | _ | k
  · exact Nat.le_trans (flat_le (c := 8 * 16) hA (fun a h1 => flat_le hB (fun b h2 => by rw [List.length_append]; have := lB a b h2; have := lA b a h1; omega))) (by decide)
  · show ((A.flatMap _) ++ (B.flatMap _)).length ≤ _
    rw [List.length_append]
    have h1 : (A.flatMap fun a => (na a).flatMap fun u => eAll B a u).length ≤ 8 * (8 * 64) := flat_le hA (fun a h => flat_le (ha a h) (fun u _ => lAll a u))
    have h2 : (B.flatMap fun b => (nb b).flatMap fun v => eAllB A b v).length ≤ 8 * (8 * 64) := flat_le hB (fun b h => flat_le (hb b h) (fun v _ => lAllB b v))
    omega
  · refine Nat.le_trans (flat_le (c := 8 * 64 + 8 * 8) hA (fun a h1 => ?_)) (by decide)
    rw [List.length_append]
    have h2 : ((na a).flatMap fun u => eAll B a u).length ≤ 8 * 64 := flat_le (ha a h1) (fun u _ => lAll a u)
    have h3 : (B.flatMap fun b => eB nb a b).length ≤ 8 * 8 := flat_le hB (fun b h => lB a b h)
    omega
  · exact Nat.le_trans (flat_le (c := 64) pP (fun u _ => by unfold eModU; rw [List.length_map]; exact Nat.le_trans (List.length_filter_le _ _) pP)) (by decide)
  · refine Nat.le_trans (flat_le (c := 8 * 16 + 8 * (8 * 8)) hA (fun a h1 => ?_)) (by decide)
    rw [List.length_append]
    have h2 : (B.flatMap fun b => eB nb a b ++ eA na a b).length ≤ 8 * 16 := flat_le hB (fun b h => by rw [List.length_append]; have := lB a b h; have := lA b a h1; omega)
    have h3 : ((na a).flatMap fun u => B.flatMap fun b => eAB nb a u b).length ≤ 8 * (8 * 8) := flat_le (ha a h1) (fun u _ => flat_le hB (fun b h => lAB a u b h))
    omega
  · exact Nat.le_trans (flat_le (c := 8 * (8 * 8)) hA (fun a h1 => flat_le (ha a h1) (fun u _ => flat_le hB (fun b h => lAB a u b h)))) (by decide)
end Go.V
end
