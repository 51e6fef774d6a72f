import PyProof.Rows.All
import Wide.All
import OpenK.AllK
import Wide.FinOn
import Lean
import PySem.Challenge.RW_un0012_01
set_option Elab.async false
set_option maxRecDepth 100000
section
-- HD
open PySem PySem.W PyProof.Rows
namespace Mine
set_option maxRecDepth 100000 in
set_option maxHeartbeats 8000000 in
open_top hd for PySem.Challenge.rw_un0012_01
theorem off_HD : True := by
  w_top off
  trivial
end Mine
end
local macro_rules | `(tactic| walk_at $s:str) => `(tactic| k_extra $s)
section
-- P1
set_option autoImplicit false
namespace Mine
noncomputable def gD (xs : List Int) : Nat → Int := fun i => xs.getD i 0
theorem gD_some {xs : List Int} {i : Nat} (h : i < xs.length) : xs[i]? = some (gD xs i) := by
  unfold gD
  simp [h]
theorem gD_set {xs : List Int} {i : Nat} {v : Int} (h : i < xs.length) (j : Nat) : gD (xs.set i v) j = if j = i then v else gD xs j := by
  unfold gD
  rw [List.getD_eq_getElem?_getD, List.getD_eq_getElem?_getD, List.getElem?_set]
  by_cases e : i = j
  · subst e; simp [h]
  · have e' : ¬ j = i := fun q => e q.symm
    simp [e, e']
theorem mem_gD {xs : List Int} {k : Int} : k ∈ xs ↔ ∃ i, i < xs.length ∧ gD xs i = k := by
  rw [List.mem_iff_getElem?]
  constructor
  · rintro ⟨i, h⟩
    have hi : i < xs.length := by
      rcases Nat.lt_or_ge i xs.length with q | q
      · exact q
      · rw [List.getElem?_eq_none q] at h; cases h
    exact ⟨i, hi, by rw [gD_some hi] at h; exact Option.some.inj h⟩
  · rintro ⟨i, hi, rfl⟩
    exact ⟨i, gD_some hi⟩

noncomputable def HB (n : Nat) (f : Nat → Int) (pos : Nat) : Prop :=
  (∀ i, 0 < i → i < n → i ≠ pos → f ((i - 1) / 2) ≤ f i) ∧ (∀ c, 0 < c → c < n → (c - 1) / 2 = pos → 0 < pos → f ((pos - 1) / 2) ≤ f c)
noncomputable def HeapOK (n : Nat) (f : Nat → Int) : Prop := ∀ i, 0 < i → i < n → f ((i - 1) / 2) ≤ f i

theorem HB.congr {n p : Nat} {f f' : Nat → Int} (h : HB n f p) (e : ∀ i, i < n → f' i = f i) (hp : p < n) : HB n f' p := by
  refine ⟨fun i h0 h1 h2 => ?_, fun c h0 h1 h2 h3 => ?_⟩
  · rw [e i h1, e _ (by (first | lia | omega))]; exact h.1 i h0 h1 h2
  · rw [e c h1, e _ (by (first | lia | omega))]; exact h.2 c h0 h1 h2 h3

theorem set_self {ys : List Int} {p : Nat} (h : p < ys.length) : ys.set p (gD ys p) = ys := by
  apply List.ext_getElem?
  intro i
  rw [List.getElem?_set]
  by_cases e : p = i
  · subst e; simp [h]; unfold gD; simp [h]
  · simp [e]

/-- one step of _siftdown -/
theorem hb_step {n p : Nat} {ys : List Int} {x : Int} (hl : ys.length = n) (hp : p < n) (h0 : 0 < p) (h : HB n (gD (ys.set p x)) p) (hx : x < gD ys ((p - 1) / 2)) :
    HB n (gD ((ys.set p (gD ys ((p - 1) / 2))).set ((p - 1) / 2) x)) ((p - 1) / 2) := by
  have hq : (p - 1) / 2 < p := by (first | lia | omega)
  have f1 : ∀ j, gD (ys.set p x) j = if j = p then x else gD ys j := gD_set (by (first | lia | omega))
  have f2 : ∀ j, gD ((ys.set p (gD ys ((p - 1) / 2))).set ((p - 1) / 2) x) j = if j = (p - 1) / 2 then x else if j = p then gD ys ((p - 1) / 2) else gD ys j := by
    intro j
    rw [gD_set (by rw [List.length_set]; (first | lia | omega)), gD_set (by (first | lia | omega))]
  generalize hpar : (p - 1) / 2 = q at *
  obtain ⟨ha, hb⟩ := h
  refine ⟨fun i i0 i1 i2 => ?_, fun c c0 c1 c2 c3 => ?_⟩
  · rw [f2, f2, if_neg i2]
    by_cases e1 : i = p
    · subst e1
      rw [if_pos hpar, if_pos rfl]; (first | lia | omega)
    · rw [if_neg e1]
      have := ha i i0 i1 e1
      rw [f1, f1, if_neg e1] at this
      by_cases e2 : (i - 1) / 2 = q
      · rw [if_pos e2]
        rw [e2, if_neg (by (first | lia | omega))] at this
        (first | lia | omega)
      · rw [if_neg e2]
        by_cases e3 : (i - 1) / 2 = p
        · rw [if_pos e3]
          have := hb i i0 i1 e3 h0
          rw [hpar, f1, f1, if_neg (by (first | lia | omega)), if_neg e1] at this
          exact this
        · rw [if_neg e3]
          rw [if_neg e3] at this
          exact this
  · rw [f2, f2, if_neg (show ¬ (q - 1) / 2 = q by (first | lia | omega)), if_neg (show ¬ (q - 1) / 2 = p by (first | lia | omega)), if_neg (show ¬ c = q by (first | lia | omega))]
    have h1 := ha q c3 (by (first | lia | omega)) (by (first | lia | omega))
    rw [f1, f1, if_neg (by (first | lia | omega)), if_neg (by (first | lia | omega))] at h1
    by_cases e1 : c = p
    · rw [if_pos e1]; exact h1
    · rw [if_neg e1]
      have h2 := ha c c0 c1 e1
      rw [f1, f1, if_neg e1, c2, if_neg (by (first | lia | omega))] at h2
      (first | lia | omega)

theorem mem_swap {n p q : Nat} {ys : List Int} {x : Int} (hl : ys.length = n) (hp : p < n) (hq : q < n) (hpq : p ≠ q) (k : Int) :
    k ∈ (ys.set p (gD ys q)).set q x ↔ k ∈ ys.set p x := by
  have f1 : ∀ j, gD (ys.set p x) j = if j = p then x else gD ys j := gD_set (by (first | lia | omega))
  have f2 : ∀ j, gD ((ys.set p (gD ys q)).set q x) j = if j = q then x else if j = p then gD ys q else gD ys j := by
    intro j
    rw [gD_set (by rw [List.length_set]; (first | lia | omega)), gD_set (by (first | lia | omega))]
  rw [mem_gD, mem_gD]
  simp only [List.length_set]
  constructor
  · rintro ⟨i, hi, rfl⟩
    rw [f2]
    by_cases e : i = q
    · rw [if_pos e]; exact ⟨p, by (first | lia | omega), by rw [f1, if_pos rfl]⟩
    · rw [if_neg e]
      by_cases e2 : i = p
      · rw [if_pos e2]; exact ⟨q, by (first | lia | omega), by rw [f1, if_neg (by (first | lia | omega))]⟩
      · rw [if_neg e2]; exact ⟨i, hi, by rw [f1, if_neg e2]⟩
  · rintro ⟨i, hi, rfl⟩
    rw [f1]
    by_cases e2 : i = p
    · rw [if_pos e2]; exact ⟨q, by (first | lia | omega), by rw [f2, if_pos rfl]⟩
    · rw [if_neg e2]
      by_cases e : i = q
      · subst e; exact ⟨p, by (first | lia | omega), by rw [f2, if_neg hpq, if_pos rfl]⟩
      · exact ⟨i, hi, by rw [f2, if_neg e, if_neg e2]⟩

/-- the end of _siftdown -/
theorem hb_end {n p : Nat} {ys : List Int} {x : Int} (hl : ys.length = n) (hp : p < n) (h : HB n (gD (ys.set p x)) p) (he : p = 0 ∨ ¬ x < gD ys ((p - 1) / 2)) : HeapOK n (gD (ys.set p x)) := by
  intro i i0 i1
  by_cases e : i = p
  · subst e
    have f1 : ∀ j, gD (ys.set i x) j = if j = i then x else gD ys j := gD_set (by (first | lia | omega))
    rw [f1, f1, if_pos rfl, if_neg (by (first | lia | omega))]
    (first | lia | omega)
  · exact h.1 i i0 i1 e

/-- _siftup: the heap with a hole at p; a child's value has been chosen -/
noncomputable def HU (n : Nat) (f : Nat → Int) (p : Nat) : Prop :=
  (∀ i, 0 < i → i < n → i ≠ p → (i - 1) / 2 ≠ p → f ((i - 1) / 2) ≤ f i) ∧ (∀ c, 0 < c → c < n → (c - 1) / 2 = p → 0 < p → f ((p - 1) / 2) ≤ f c)
theorem hu_start {n : Nat} {f : Nat → Int} (h : ∀ i, 0 < i → i < n → (i - 1) / 2 ≠ 0 → f ((i - 1) / 2) ≤ f i) : HU n f 0 :=
  ⟨fun i a b _ d => h i a b d, fun c _ _ _ d => absurd d (Nat.lt_irrefl _)⟩
theorem hu_step {n p c : Nat} {ys : List Int} {x : Int} (hl : ys.length = n) (hc : c < n) (hcp : c = 2 * p + 1 ∨ c = 2 * p + 2) (h : HU n (gD (ys.set p x)) p)
    (hmin : ∀ d, (d = 2 * p + 1 ∨ d = 2 * p + 2) → d < n → gD ys c ≤ gD ys d) :
    HU n (gD ((ys.set p (gD ys c)).set c x)) c := by
  have hp : p < n := by (first | lia | omega)
  have f1 : ∀ j, gD (ys.set p x) j = if j = p then x else gD ys j := gD_set (by (first | lia | omega))
  have f2 : ∀ j, gD ((ys.set p (gD ys c)).set c x) j = if j = c then x else if j = p then gD ys c else gD ys j := by
    intro j
    rw [gD_set (by rw [List.length_set]; (first | lia | omega)), gD_set (by (first | lia | omega))]
  obtain ⟨ha, hb⟩ := h
  refine ⟨fun i i0 i1 i2 i3 => ?_, fun d d0 d1 d2 d3 => ?_⟩
  · rw [f2, f2, if_neg i2, if_neg i3]
    by_cases e1 : i = p
    · subst e1
      rw [if_pos rfl, if_neg (by (first | lia | omega))]
      have := hb c (by (first | lia | omega)) hc (by (first | lia | omega)) i0
      rw [f1, f1, if_neg (by (first | lia | omega)), if_neg (by (first | lia | omega))] at this
      exact this
    · rw [if_neg e1]
      by_cases e2 : (i - 1) / 2 = p
      · rw [if_pos e2]
        exact hmin i (by (first | lia | omega)) i1
      · rw [if_neg e2]
        have := ha i i0 i1 e1 e2
        rw [f1, f1, if_neg e1, if_neg e2] at this
        exact this
  · rw [f2, f2, if_neg (show ¬ (c - 1) / 2 = c by (first | lia | omega)), if_pos (show (c - 1) / 2 = p by (first | lia | omega)), if_neg (show ¬ d = c by (first | lia | omega)), if_neg (show ¬ d = p by (first | lia | omega))]
    have := ha d d0 d1 (by (first | lia | omega)) (by (first | lia | omega))
    rw [f1, f1, if_neg (by (first | lia | omega)), if_neg (by (first | lia | omega)), d2] at this
    exact this
theorem hu_end {n p : Nat} {f : Nat → Int} (h : HU n f p) (hp : n ≤ 2 * p + 1) : HB n f p :=
  ⟨fun i a b c => h.1 i a b c (by (first | lia | omega)), fun c a b d e => h.2 c a b d e⟩
theorem heap_min {n : Nat} {f : Nat → Int} (h : HeapOK n f) : ∀ i, i < n → f 0 ≤ f i := by
  intro i
  induction i using Nat.strongRecOn with
  | ind i ih =>
    intro hi
    rcases Nat.eq_zero_or_pos i with e | e
    · subst e; (first | lia | omega)
    · have h1 := h i e hi
      have h2 := ih ((i - 1) / 2) (by (first | lia | omega)) (by (first | lia | omega))
      (first | lia | omega)
theorem gD_append {xs : List Int} {x : Int} {i : Nat} : gD (xs ++ [x]) i = if i < xs.length then gD xs i else if i = xs.length then x else 0 := by
  unfold gD
  rw [List.getD_eq_getElem?_getD, List.getD_eq_getElem?_getD]
  by_cases h : i < xs.length
  · rw [if_pos h, List.getElem?_append_left h]
  · rw [if_neg h]
    by_cases e : i = xs.length
    · subst e; simp
    · rw [if_neg e, List.getElem?_eq_none (by rw [List.length_append, List.length_singleton]; (first | lia | omega))]; rfl
theorem hb_push {xs : List Int} {x : Int} (h : HeapOK xs.length (gD xs)) : HB (xs ++ [x]).length (gD (xs ++ [x])) xs.length := by
  rw [List.length_append, List.length_singleton]
  refine ⟨fun i h0 h1 h2 => ?_, fun c h0 h1 h2 h3 => by (first | lia | omega)⟩
  rw [gD_append, gD_append, if_pos (by (first | lia | omega)), if_pos (by (first | lia | omega))]
  exact h i h0 (by (first | lia | omega))
theorem hu_pop {xs : List Int} {z : Int} (h : HeapOK (xs ++ [z]).length (gD (xs ++ [z]))) (h0 : 0 < xs.length) :
    ∀ i, 0 < i → i < (xs.set 0 z).length → (i - 1) / 2 ≠ 0 → gD (xs.set 0 z) ((i - 1) / 2) ≤ gD (xs.set 0 z) i := by
  intro i i0 i1 i2
  rw [List.length_set] at i1
  rw [gD_set h0, gD_set h0, if_neg i2, if_neg (by (first | lia | omega))]
  have := h i i0 (by rw [List.length_append, List.length_singleton]; (first | lia | omega))
  rw [gD_append, gD_append, if_pos (by (first | lia | omega)), if_pos i1] at this
  exact this
theorem mem_pop {xs : List Int} {z : Int} (h0 : 0 < xs.length) (j : Int) : j ∈ xs ++ [z] ↔ j = gD xs 0 ∨ j ∈ xs.set 0 z := by
  match xs, h0 with
  | a :: r, _ =>
    simp only [List.set_cons_zero, List.mem_cons, List.cons_append, List.mem_append, List.not_mem_nil, or_false]
    show _ ↔ j = a ∨ _
    constructor
    · rintro (h | h | h)
      · exact .inl h
      · exact .inr (.inr h)
      · exact .inr (.inl h)
    · rintro (h | h | h)
      · exact .inl h
      · exact .inr (.inr h)
      · exact .inr (.inl h)
theorem min_pop {xs : List Int} {z : Int} (h : HeapOK (xs ++ [z]).length (gD (xs ++ [z]))) (h0 : 0 < xs.length) (j : Int) (hj : j ∈ xs ++ [z]) : gD xs 0 ≤ j := by
  obtain ⟨i, hi, rfl⟩ := mem_gD.mp hj
  have := heap_min h i hi
  rw [gD_append (i := 0), if_pos h0] at this
  exact this
end Mine
end
section
-- P2
namespace Mine
noncomputable def popN (n : Nat) : Nat := n % 2 + n / 2 % 2 + n / 4 % 2 + n / 8 % 2 + n / 16 % 2
noncomputable def rank (Y : Nat) : Nat := popN Y * 32 + Y
noncomputable def sub (r Y : Nat) : Bool := r &&& Y == r
noncomputable def inU (R : List Nat) (Y : Nat) : Bool := R.any (sub · Y)
noncomputable def Zc (R : List Nat) (Y : Nat) : Nat := (R.filter (sub · Y)).foldl (· &&& ·) 31
noncomputable def Ent (R : List Nat) (T Y c : Nat) : Prop := Y < 32 ∧ T ≤ rank Y ∧ ((c = Y ∧ Y ∈ R) ∨ ∃ k, k < 5 ∧ Y.testBit k = true ∧ inU R (Y - 2 ^ k) = true ∧ rank (Y - 2 ^ k) < T ∧ c = Zc R (Y - 2 ^ k))

theorem t_down : ∀ Y : Fin 32, ∀ k : Fin 5, Y.val.testBit k.val = true → 2 ^ k.val ≤ Y.val ∧ rank (Y.val - 2 ^ k.val) < rank Y.val ∧ popN (Y.val - 2 ^ k.val) + 1 = popN Y.val := by decide +kernel
theorem t_up : ∀ Y : Fin 32, ∀ k : Fin 5, Y.val.testBit k.val = false → Y.val + 2 ^ k.val < 32 ∧ (Y.val + 2 ^ k.val).testBit k.val = true ∧ popN (Y.val + 2 ^ k.val) = popN Y.val + 1 := by decide +kernel
theorem t_back : ∀ Y : Fin 32, ∀ k : Fin 5, Y.val.testBit k.val = true → (Y.val - 2 ^ k.val).testBit k.val = false := by decide +kernel
theorem t_inj : ∀ Y X : Fin 32, rank Y.val = rank X.val → Y.val = X.val := by decide +kernel
theorem t_split : ∀ r Y : Fin 32, sub r.val Y.val = true → r.val ≠ Y.val → ∃ k : Fin 5, Y.val.testBit k.val = true ∧ sub r.val (Y.val - 2 ^ k.val) = true := by decide +kernel
theorem t_mono : ∀ r Y : Fin 32, ∀ k : Fin 5, Y.val.testBit k.val = true → sub r.val (Y.val - 2 ^ k.val) = true → sub r.val Y.val = true := by decide +kernel
theorem t_refl : ∀ r : Fin 32, sub r.val r.val = true := by decide +kernel
theorem t_rank : ∀ Y : Fin 32, rank Y.val < 192 ∧ rank Y.val % 32 = Y.val ∧ rank Y.val / 32 = popN Y.val := by decide +kernel

theorem d_down {Y k : Nat} (hY : Y < 32) (hk : k < 5) (h : Y.testBit k = true) : 2 ^ k ≤ Y ∧ rank (Y - 2 ^ k) < rank Y ∧ popN (Y - 2 ^ k) + 1 = popN Y := t_down ⟨Y, hY⟩ ⟨k, hk⟩ h
theorem d_up {Y k : Nat} (hY : Y < 32) (hk : k < 5) (h : Y.testBit k = false) : Y + 2 ^ k < 32 ∧ (Y + 2 ^ k).testBit k = true ∧ popN (Y + 2 ^ k) = popN Y + 1 := t_up ⟨Y, hY⟩ ⟨k, hk⟩ h
theorem d_back {Y k : Nat} (hY : Y < 32) (hk : k < 5) (h : Y.testBit k = true) : (Y - 2 ^ k).testBit k = false := t_back ⟨Y, hY⟩ ⟨k, hk⟩ h
theorem d_inj {Y X : Nat} (hY : Y < 32) (hX : X < 32) (h : rank Y = rank X) : Y = X := t_inj ⟨Y, hY⟩ ⟨X, hX⟩ h
theorem d_split {r Y : Nat} (hr : r < 32) (hY : Y < 32) (h : sub r Y = true) (hn : r ≠ Y) : ∃ k, k < 5 ∧ Y.testBit k = true ∧ sub r (Y - 2 ^ k) = true := by
  obtain ⟨k, a, b⟩ := t_split ⟨r, hr⟩ ⟨Y, hY⟩ h hn
  exact ⟨k.val, k.isLt, a, b⟩
theorem d_mono {r Y k : Nat} (hr : r < 32) (hY : Y < 32) (hk : k < 5) (h : Y.testBit k = true) (hs : sub r (Y - 2 ^ k) = true) : sub r Y = true := t_mono ⟨r, hr⟩ ⟨Y, hY⟩ ⟨k, hk⟩ h hs
theorem d_refl {r : Nat} (hr : r < 32) : sub r r = true := t_refl ⟨r, hr⟩
theorem d_rank {Y : Nat} (hY : Y < 32) : rank Y < 192 ∧ rank Y % 32 = Y ∧ rank Y / 32 = popN Y := t_rank ⟨Y, hY⟩
theorem inU_iff {R : List Nat} {Y : Nat} : inU R Y = true ↔ ∃ r, r ∈ R ∧ sub r Y = true := by
  unfold inU; rw [List.any_eq_true]
theorem Ent.inU {R : List Nat} {T Y c : Nat} (hR : ∀ r ∈ R, r < 32) (h : Ent R T Y c) : Mine.inU R Y = true := by
  obtain ⟨hY, _, ⟨rfl, hm⟩ | ⟨k, hk, hb, hu, _, _⟩⟩ := h
  · exact inU_iff.mpr ⟨_, hm, d_refl hY⟩
  · obtain ⟨r, hr, hs⟩ := inU_iff.mp hu
    exact inU_iff.mpr ⟨r, hr, d_mono (hR r hr) hY hk hb hs⟩
theorem ent_exists {R : List Nat} {T : Nat} (hR : ∀ r ∈ R, r < 32) : ∀ (n X : Nat), rank X = n → X < 32 → inU R X = true → T ≤ rank X → ∃ Y c, Ent R T Y c ∧ rank Y ≤ rank X := by
  intro n
  induction n using Nat.strongRecOn with
  | _ n ih =>
    intro X hn hX hu hT
    obtain ⟨r, hr, hs⟩ := inU_iff.mp hu
    by_cases e : r = X
    · subst e
      exact ⟨r, r, ⟨hX, hT, .inl ⟨rfl, hr⟩⟩, Nat.le_refl _⟩
    · obtain ⟨k, hk, hb, hs'⟩ := d_split (hR r hr) hX hs e
      obtain ⟨h2, hlt, _⟩ := d_down hX hk hb
      have hu' : inU R (X - 2 ^ k) = true := inU_iff.mpr ⟨r, hr, hs'⟩
      rcases Nat.lt_or_ge (rank (X - 2 ^ k)) T with h | h
      · exact ⟨X, _, ⟨hX, hT, .inr ⟨k, hk, hb, hu', h, rfl⟩⟩, Nat.le_refl _⟩
      · obtain ⟨Y, c, hE, hle⟩ := ih _ (by (first | lia | omega)) (X - 2 ^ k) rfl (Nat.lt_of_le_of_lt (Nat.sub_le _ _) hX) hu' h
        exact ⟨Y, c, hE, by (first | lia | omega)⟩
theorem foldl_bit {b : Nat} : ∀ (l : List Nat) (a : Nat), (l.foldl (· &&& ·) a).testBit b = (a.testBit b && l.all fun r => r.testBit b)
  | [], a => by simp
  | x :: l, a => by rw [List.foldl_cons, foldl_bit l, Nat.testBit_and, List.all_cons, Bool.and_assoc]
theorem foldl_le : ∀ (l : List Nat) (a : Nat), l.foldl (· &&& ·) a ≤ a
  | [], a => Nat.le_refl _
  | x :: l, a => Nat.le_trans (foldl_le l _) Nat.and_le_left
theorem Zc_lt (R : List Nat) (Y : Nat) : Zc R Y < 32 := Nat.lt_succ_of_le (foldl_le _ 31)
theorem t_31 : ∀ b : Fin 5, (31 : Nat).testBit b.val = true := by decide
theorem Zc_bit {R : List Nat} {Y b : Nat} (hb : b < 5) : (Zc R Y).testBit b = true ↔ ∀ r ∈ R, sub r Y = true → r.testBit b = true := by
  unfold Zc
  rw [foldl_bit, t_31 ⟨b, hb⟩, Bool.true_and, List.all_eq_true]
  constructor
  · intro h r hr hs; exact h r (List.mem_filter.mpr ⟨hr, hs⟩)
  · intro h r hr; exact h r (List.mem_filter.mp hr).1 (List.mem_filter.mp hr).2
theorem small_ext {a b : Nat} (ha : a < 32) (hb : b < 32) (h : ∀ i, i < 5 → (a.testBit i = true ↔ b.testBit i = true)) : a = b := by
  apply Nat.eq_of_testBit_eq
  intro i
  rcases Nat.lt_or_ge i 5 with hi | hi
  · have := h i hi
    cases q : a.testBit i <;> cases q' : b.testBit i <;> simp_all
  · have p : 2 ^ 5 ≤ 2 ^ i := Nat.pow_le_pow_right (by decide) hi
    rw [Nat.testBit_lt_two_pow (by (first | lia | omega)), Nat.testBit_lt_two_pow (by (first | lia | omega))]
/-- all U members before the least entry are done -/
theorem low_done {R : List Nat} {T Y : Nat} (hR : ∀ r ∈ R, r < 32) (hmin : ∀ Y' c', Ent R T Y' c' → rank Y ≤ rank Y') {X : Nat} (hX : X < 32) (hu : inU R X = true) (hlt : rank X < rank Y) : rank X < T := by
  rcases Nat.lt_or_ge (rank X) T with h | h
  · exact h
  · obtain ⟨Y', c', hE, hle⟩ := ent_exists hR _ X rfl hX hu h
    have := hmin Y' c' hE
    (first | lia | omega)
theorem common_is {R : List Nat} {T Y c : Nat} (hR : ∀ r ∈ R, r < 32) (hY : Y < 32) (hT : T ≤ rank Y) (hmin : ∀ Y' c', Ent R T Y' c' → rank Y ≤ rank Y') (hc : c < 32)
    (h : ∀ b, b < 5 → (c.testBit b = true ↔ ∀ c', Ent R T Y c' → c'.testBit b = true)) : c = Zc R Y := by
  refine small_ext hc (Zc_lt R Y) fun b hb => (h b hb).trans ((Zc_bit hb).trans ?_).symm
  constructor
  · intro hz c' ⟨_, _, he⟩
    rcases he with ⟨rfl, hm⟩ | ⟨k, hk, hbk, hu, _, rfl⟩
    · exact hz _ hm (d_refl hY)
    · rw [Zc_bit hb]
      intro r hr hs
      exact hz r hr (d_mono (hR r hr) hY hk hbk hs)
  · intro he r hr hs
    by_cases e : r = Y
    · subst e
      exact he r ⟨hY, hT, .inl ⟨rfl, hr⟩⟩
    · obtain ⟨k, hk, hbk, hs'⟩ := d_split (hR r hr) hY hs e
      obtain ⟨h2, hlt, _⟩ := d_down hY hk hbk
      have hu : inU R (Y - 2 ^ k) = true := inU_iff.mpr ⟨r, hr, hs'⟩
      have := he _ ⟨hY, hT, .inr ⟨k, hk, hbk, hu, low_done hR hmin (Nat.lt_of_le_of_lt (Nat.sub_le _ _) hY) hu hlt, rfl⟩⟩
      exact (Zc_bit hb).mp this r hr hs'
theorem next_ent {R : List Nat} {T Y c₀ : Nat} (hR : ∀ r ∈ R, r < 32) (h₀ : Ent R T Y c₀) (hmin : ∀ Y' c', Ent R T Y' c' → rank Y ≤ rank Y') (Y' c' : Nat) :
    Ent R (rank Y + 1) Y' c' ↔ (Ent R T Y' c' ∧ Y' ≠ Y) ∨ ∃ k, k < 5 ∧ Y.testBit k = false ∧ Y' = Y + 2 ^ k ∧ c' = Zc R Y := by
  have hY := h₀.1
  constructor
  · rintro ⟨hY', hT', he⟩
    have hne : Y' ≠ Y := fun e => by rw [e] at hT'; (first | lia | omega)
    rcases he with ⟨rfl, hm⟩ | ⟨k, hk, hbk, hu, hlt, rfl⟩
    · exact .inl ⟨⟨hY', by have := h₀.2.1; (first | lia | omega), .inl ⟨rfl, hm⟩⟩, hne⟩
    · obtain ⟨h2, hlt', _⟩ := d_down hY' hk hbk
      by_cases e : Y' - 2 ^ k = Y
      · refine .inr ⟨k, hk, ?_, ?_, by rw [e]⟩
        · rw [← e]; exact d_back hY' hk hbk
        · have h2' : 2 ^ k ≤ Y' := h2
          (first | lia | omega)
      · refine .inl ⟨⟨hY', by have := h₀.2.1; (first | lia | omega), .inr ⟨k, hk, hbk, hu, ?_, rfl⟩⟩, hne⟩
        refine low_done hR hmin (Nat.lt_of_le_of_lt (Nat.sub_le _ _) hY') hu ?_
        rcases Nat.lt_or_ge (rank (Y' - 2 ^ k)) (rank Y) with q | q
        · exact q
        · exact absurd (d_inj (Nat.lt_of_le_of_lt (Nat.sub_le _ _) hY') hY (by (first | lia | omega))) e
  · rintro (⟨he, hne⟩ | ⟨k, hk, hbk, rfl, rfl⟩)
    · have hle := hmin Y' c' he
      obtain ⟨hY', hT', he⟩ := he
      refine ⟨hY', ?_, ?_⟩
      · rcases Nat.lt_or_ge (rank Y) (rank Y') with q | q
        · exact q
        · exact absurd (d_inj hY' hY (by (first | lia | omega))) hne
      · rcases he with h | ⟨k, hk, hbk, hu, hlt, hc⟩
        · exact .inl h
        · exact .inr ⟨k, hk, hbk, hu, by have := h₀.2.1; (first | lia | omega), hc⟩
    · obtain ⟨h1, h2, h3⟩ := d_up hY hk hbk
      have h1' : Y + 2 ^ k < 32 := h1
      have h2' : (Y + 2 ^ k).testBit k = true := h2
      have e : Y + 2 ^ k - 2 ^ k = Y := Nat.add_sub_cancel _ _
      refine ⟨h1', ?_, .inr ⟨k, hk, h2', by rw [e]; exact h₀.inU hR, by rw [e]; (first | lia | omega), by rw [e]⟩⟩
      unfold rank
      have h3' : popN (Y + 2 ^ k) = popN Y + 1 := h3
      have h4 : 0 ≤ 2 ^ k := Nat.zero_le _
      rw [h3']
      generalize 2 ^ k = q at *
      (first | lia | omega)
noncomputable def okR (R : List Nat) (t : Nat) : Bool := t / 32 == popN (t % 32) && inU R (t % 32)
noncomputable def logN (R : List Nat) (T : Nat) : List Nat := ((List.range T).filter (okR R)).map (· % 32)
theorem okR_rank {R : List Nat} {t : Nat} (h : okR R t = true) : t = rank (t % 32) ∧ inU R (t % 32) = true := by
  unfold okR at h
  rw [Bool.and_eq_true, beq_iff_eq] at h
  refine ⟨?_, h.2⟩
  unfold rank
  (first | lia | omega)
theorem range_gap {f : Nat → Bool} {a b : Nat} (hab : a ≤ b) (h : ∀ t, a ≤ t → t < b → f t = false) : (List.range b).filter f = (List.range a).filter f := by
  obtain ⟨d, rfl⟩ := Nat.exists_eq_add_of_le hab
  induction d with
  | zero => rfl
  | succ d ih =>
    rw [show a + (d + 1) = (a + d) + 1 from rfl, List.range_succ, List.filter_append, ih (Nat.le_add_right _ _) (fun t h1 h2 => h t h1 (by (first | lia | omega)))]
    rw [List.filter_cons, h (a + d) (Nat.le_add_right _ _) (by (first | lia | omega))]
    simp
theorem log_step {R : List Nat} {T Y c₀ : Nat} (hR : ∀ r ∈ R, r < 32) (h₀ : Ent R T Y c₀) (hmin : ∀ Y' c', Ent R T Y' c' → rank Y ≤ rank Y') : logN R (rank Y + 1) = logN R T ++ [Y] := by
  have hY := h₀.1
  obtain ⟨r1, r2, r3⟩ := d_rank hY
  unfold logN
  rw [List.range_succ, List.filter_append, List.map_append, range_gap (a := T) h₀.2.1 (fun t h1 h2 => ?_)]
  · have : okR R (rank Y) = true := by
      unfold okR
      rw [show rank Y % 32 = Y from r2, show rank Y / 32 = popN Y from r3, h₀.inU hR]; simp
    rw [List.filter_cons, this]
    simp only [if_true, List.filter_nil, List.map_cons, List.map_nil]
    rw [show rank Y % 32 = Y from r2]
  · cases q : okR R t with
    | false => rfl
    | true =>
      obtain ⟨e, hu⟩ := okR_rank q
      have := low_done hR hmin (X := t % 32) (Nat.mod_lt _ (by decide)) hu (by (first | lia | omega))
      (first | lia | omega)
theorem log_end {R : List Nat} {T : Nat} (hR : ∀ r ∈ R, r < 32) (hT : T ≤ 192) (h : ∀ Y c, ¬ Ent R T Y c) : logN R T = logN R 192 := by
  unfold logN
  rw [range_gap (a := T) (b := 192) hT (fun t h1 h2 => ?_)]
  cases q : okR R t with
  | false => rfl
  | true =>
    obtain ⟨e, hu⟩ := okR_rank q
    obtain ⟨Y, c, hE, _⟩ := ent_exists (T := T) hR _ (t % 32) rfl (Nat.mod_lt _ (by decide)) hu (by (first | lia | omega))
    exact absurd hE (h Y c)
end Mine
end
section
-- P3
namespace Mine
/-! the plain law: what the log's shares come to (Ahlswede, Zhang) -/
noncomputable def shareN (n : Nat) : Int := [0, 12, 3, 2, 3, 12].getD n 0
/-- all sets of rights that have one, from the fewest rights on -/
noncomputable def sorted31 : List Nat := [1, 2, 4, 8, 16, 3, 5, 6, 9, 10, 12, 17, 18, 20, 24, 7, 11, 13, 14, 19, 21, 22, 25, 26, 28, 15, 23, 27, 29, 30, 31]
theorem sub_zero {r : Nat} (h : sub r 0 = true) : r = 0 := by
  unfold sub at h
  rw [Nat.and_zero] at h
  exact (beq_iff_eq.mp h).symm
theorem logN_all {R : List Nat} (hR : ∀ r ∈ R, 1 ≤ r) : logN R 192 = sorted31.filter (inU R) := by
  have h0 : inU R 0 = false := by
    cases e : inU R 0 with
    | false => rfl
    | true =>
      obtain ⟨r, hr, hs⟩ := inU_iff.mp e
      have := hR r hr
      rw [sub_zero hs] at this
      (first | lia | omega)
  have e1 : (List.range 192).filter (okR R) = ((List.range 192).filter fun t => t / 32 == popN (t % 32)).filter fun t => inU R (t % 32) := by
    rw [List.filter_filter]
    refine List.filter_congr fun t _ => ?_
    unfold okR; rw [Bool.and_comm]
  have e2 : ((List.range 192).filter fun t => t / 32 == popN (t % 32)).map (· % 32) = 0 :: sorted31 := by decide +kernel
  unfold logN
  rw [e1]
  have e3 : ∀ l : List Nat, (l.filter fun t => inU R (t % 32)).map (· % 32) = (l.map (· % 32)).filter (inU R) := by
    intro l
    rw [List.filter_map]; rfl
  rw [e3, e2, List.filter_cons, h0]
  rfl
theorem t_out : ∀ r Y : Fin 32, ∀ k : Fin 5, sub r.val Y.val = true → r.val.testBit k.val = false → sub r.val (Y.val - 2 ^ k.val) = true ∨ Y.val.testBit k.val = false := by decide +kernel
theorem t_in : ∀ r Y : Fin 32, ∀ k : Fin 5, sub r.val Y.val = true → r.val.testBit k.val = true → Y.val.testBit k.val = true := by decide +kernel
theorem Zc_iff {R : List Nat} (hR : ∀ r ∈ R, r < 32) {Y k : Nat} (hY : Y < 32) (hk : k < 5) (hu : inU R Y = true) : (Zc R Y).testBit k = (Y.testBit k && !inU R (Y - 2 ^ k)) := by
  rw [Bool.eq_iff_iff, Zc_bit hk, Bool.and_eq_true, Bool.not_eq_true']
  constructor
  · intro h
    obtain ⟨r, hr, hs⟩ := inU_iff.mp hu
    have hb : Y.testBit k = true := t_in ⟨r, hR r hr⟩ ⟨Y, hY⟩ ⟨k, hk⟩ hs (h r hr hs)
    refine ⟨hb, ?_⟩
    cases e : inU R (Y - 2 ^ k) with
    | false => rfl
    | true =>
      obtain ⟨r', hr', hs'⟩ := inU_iff.mp e
      have h1 := h r' hr' (d_mono (hR r' hr') hY hk hb hs')
      have h2 := t_in ⟨r', hR r' hr'⟩ ⟨Y - 2 ^ k, Nat.lt_of_le_of_lt (Nat.sub_le _ _) hY⟩ ⟨k, hk⟩ hs' h1
      have h3 := d_back hY hk hb
      exact absurd h2 (by rw [h3]; decide)
  · rintro ⟨hb, hn⟩ r hr hs
    cases e : r.testBit k with
    | true => rfl
    | false =>
      rcases t_out ⟨r, hR r hr⟩ ⟨Y, hY⟩ ⟨k, hk⟩ hs e with h | h
      · rw [inU_iff.mpr ⟨r, hr, h⟩] at hn; cases hn
      · rw [hb] at h; cases h
noncomputable def bN (b : Bool) : Int := if b then 1 else 0
theorem popN_bits : ∀ c : Fin 32, (popN c.val : Int) = bN (c.val.testBit 0) + bN (c.val.testBit 1) + bN (c.val.testBit 2) + bN (c.val.testBit 3) + bN (c.val.testBit 4) := by decide +kernel
noncomputable def fN (R : List Nat) (Y : Nat) : Int := bN (inU R Y)
theorem inU_mono {R : List Nat} (hR : ∀ r ∈ R, r < 32) {Y k : Nat} (hY : Y < 32) (hk : k < 5) (hb : Y.testBit k = true) (h : inU R (Y - 2 ^ k) = true) : inU R Y = true := by
  obtain ⟨r', hr', hs'⟩ := inU_iff.mp h
  exact inU_iff.mpr ⟨r', hr', d_mono (hR r' hr') hY hk hb hs'⟩
theorem bit_share {R : List Nat} (hR : ∀ r ∈ R, r < 32) {Y k : Nat} (hY : Y < 32) (hk : k < 5) : (if inU R Y = true then bN ((Zc R Y).testBit k) else 0) = if Y.testBit k = true then fN R Y - fN R (Y - 2 ^ k) else 0 := by
  unfold fN bN
  cases hu : inU R Y with
  | true =>
    rw [Zc_iff hR hY hk hu]
    cases hb : Y.testBit k <;> cases e : inU R (Y - 2 ^ k) <;> simp
  | false =>
    cases hb : Y.testBit k with
    | false => simp
    | true =>
      cases e : inU R (Y - 2 ^ k) with
      | false => simp
      | true => rw [inU_mono hR hY hk hb e] at hu; cases hu
noncomputable def termN (R : List Nat) (Y : Nat) : Int := shareN (popN Y) * ((if Y.testBit 0 = true then fN R Y - fN R (Y - 2 ^ 0) else 0) + (if Y.testBit 1 = true then fN R Y - fN R (Y - 2 ^ 1) else 0) + (if Y.testBit 2 = true then fN R Y - fN R (Y - 2 ^ 2) else 0)
  + (if Y.testBit 3 = true then fN R Y - fN R (Y - 2 ^ 3) else 0) + (if Y.testBit 4 = true then fN R Y - fN R (Y - 2 ^ 4) else 0))
theorem term_is {R : List Nat} (hR : ∀ r ∈ R, r < 32) {Y : Nat} (hY : Y < 32) : (if inU R Y = true then shareN (popN Y) * (popN (Zc R Y) : Int) else 0) = termN R Y := by
  unfold termN
  rw [← bit_share hR hY (k := 0) (by decide), ← bit_share hR hY (k := 1) (by decide), ← bit_share hR hY (k := 2) (by decide), ← bit_share hR hY (k := 3) (by decide), ← bit_share hR hY (k := 4) (by decide)]
  rw [popN_bits ⟨Zc R Y, Zc_lt R Y⟩]
  cases inU R Y <;> simp
theorem sum_filter (p : Nat → Bool) (f : Nat → Int) : ∀ l : List Nat, ((l.filter p).map f).sum = (l.map fun y => if p y = true then f y else 0).sum
  | [] => rfl
  | a :: l => by
    rw [List.filter_cons, List.map_cons, List.sum_cons, ← sum_filter p f l]
    cases p a <;> simp
theorem shares_sum {R : List Nat} (hne : R ≠ []) (hR : ∀ r ∈ R, 1 ≤ r ∧ r < 32) : ((logN R 192).map fun Y => shareN (popN Y) * (popN (Zc R Y) : Int)).sum = 60 := by
  have h1 : ∀ r ∈ R, r < 32 := fun r hr => (hR r hr).2
  rw [logN_all fun r hr => (hR r hr).1, sum_filter]
  have e : (sorted31.map fun y => if inU R y = true then shareN (popN y) * (popN (Zc R y) : Int) else 0) = sorted31.map (termN R) := by
    refine List.map_congr_left fun y hy => term_is h1 ?_
    have : ∀ y ∈ sorted31, y < 32 := by decide
    exact this y hy
  rw [e]
  have h31 : fN R 31 = 1 := by
    obtain ⟨r, hr⟩ := List.exists_mem_of_ne_nil R hne
    have t : ∀ r : Fin 32, sub r.val 31 = true := by decide +kernel
    unfold fN
    rw [inU_iff.mpr ⟨r, hr, t ⟨r, h1 r hr⟩⟩]; rfl
  have h0 : fN R 0 = 0 := by
    unfold fN
    cases q : inU R 0 with
    | false => rfl
    | true =>
      obtain ⟨r, hr, hs⟩ := inU_iff.mp q
      have := (hR r hr).1
      rw [sub_zero hs] at this
      (first | lia | omega)
  have key : ∀ f : Nat → Int, f 31 = 1 → f 0 = 0 → (sorted31.map fun Y => shareN (popN Y) * ((if Y.testBit 0 = true then f Y - f (Y - 2 ^ 0) else 0) + (if Y.testBit 1 = true then f Y - f (Y - 2 ^ 1) else 0) + (if Y.testBit 2 = true then f Y - f (Y - 2 ^ 2) else 0)
      + (if Y.testBit 3 = true then f Y - f (Y - 2 ^ 3) else 0) + (if Y.testBit 4 = true then f Y - f (Y - 2 ^ 4) else 0))).sum = 60 := by
    intro f f31 f0
    refine Eq.trans (b := (12 * ((f 1 - f 0) + 0 + 0 + 0 + 0) + (12 * (0 + (f 2 - f 0) + 0 + 0 + 0) + (12 * (0 + 0 + (f 4 - f 0) + 0 + 0) + (12 * (0 + 0 + 0 + (f 8 - f 0) + 0) + (12 * (0 + 0 + 0 + 0 + (f 16 - f 0)) + (3 * ((f 3 - f 2) + (f 3 - f 1) + 0 + 0 + 0) + (3 * ((f 5 - f 4) + 0 + (f 5 - f 1) + 0 + 0) + (3 * (0 + (f 6 - f 4) + (f 6 - f 2) + 0 + 0) + (3 * ((f 9 - f 8) + 0 + 0 + (f 9 - f 1) + 0) + (3 * (0 + (f 10 - f 8) + 0 + (f 10 - f 2) + 0) + (3 * (0 + 0 + (f 12 - f 8) + (f 12 - f 4) + 0) + (3 * ((f 17 - f 16) + 0 + 0 + 0 + (f 17 - f 1)) + (3 * (0 + (f 18 - f 16) + 0 + 0 + (f 18 - f 2)) + (3 * (0 + 0 + (f 20 - f 16) + 0 + (f 20 - f 4)) + (3 * (0 + 0 + 0 + (f 24 - f 16) + (f 24 - f 8)) + (2 * ((f 7 - f 6) + (f 7 - f 5) + (f 7 - f 3) + 0 + 0) + (2 * ((f 11 - f 10) + (f 11 - f 9) + 0 + (f 11 - f 3) + 0) + (2 * ((f 13 - f 12) + 0 + (f 13 - f 9) + (f 13 - f 5) + 0) + (2 * (0 + (f 14 - f 12) + (f 14 - f 10) + (f 14 - f 6) + 0) + (2 * ((f 19 - f 18) + (f 19 - f 17) + 0 + 0 + (f 19 - f 3)) + (2 * ((f 21 - f 20) + 0 + (f 21 - f 17) + 0 + (f 21 - f 5)) + (2 * (0 + (f 22 - f 20) + (f 22 - f 18) + 0 + (f 22 - f 6)) + (2 * ((f 25 - f 24) + 0 + 0 + (f 25 - f 17) + (f 25 - f 9)) + (2 * (0 + (f 26 - f 24) + 0 + (f 26 - f 18) + (f 26 - f 10)) + (2 * (0 + 0 + (f 28 - f 24) + (f 28 - f 20) + (f 28 - f 12)) + (3 * ((f 15 - f 14) + (f 15 - f 13) + (f 15 - f 11) + (f 15 - f 7) + 0) + (3 * ((f 23 - f 22) + (f 23 - f 21) + (f 23 - f 19) + 0 + (f 23 - f 7)) + (3 * ((f 27 - f 26) + (f 27 - f 25) + 0 + (f 27 - f 19) + (f 27 - f 11)) + (3 * ((f 29 - f 28) + 0 + (f 29 - f 25) + (f 29 - f 21) + (f 29 - f 13)) + (3 * (0 + (f 30 - f 28) + (f 30 - f 26) + (f 30 - f 22) + (f 30 - f 14)) + (12 * ((f 31 - f 30) + (f 31 - f 29) + (f 31 - f 27) + (f 31 - f 23) + (f 31 - f 15)) + (0))))))))))))))))))))))))))))))) : Int)) (by with_unfolding_all rfl) ?_
    (first | lia | omega)
  exact key (fN R) h31 h0
end Mine
end
section
-- B1
open PySem PySem.W PyProof.Rows PySem.Calls PySem.Spec
namespace Mine
/-- all but the addresses of S stay as they are -/
noncomputable def Stays (S : List Addr) (h h' : Heap) : Prop := ∀ b o, b ∉ S → h.get? b = some o → h'.get? b = some o
theorem Stays.refl {S : List Addr} {h : Heap} : Stays S h h := fun _ _ _ e => e
theorem Stays.trans {S : List Addr} {h h' h'' : Heap} (a : Stays S h h') (b : Stays S h' h'') : Stays S h h'' := fun x o hx e => b x o hx (a x o hx e)
theorem Stays.mono {S S' : List Addr} {h h' : Heap} (a : Stays S h h') (hs : ∀ x ∈ S, x ∈ S') : Stays S' h h' := fun x o hx e => a x o (fun q => hx (hs x q)) e
theorem Stays.all {h h' : Heap} (a : Stays [] h h') : h.StaysIn h' := fun b o e => a b o (by simp) e

/-- the walk stops here -/
noncomputable def Stopped (P : Prop) : Prop := P
theorem Stopped.intro {P : Prop} (h : Stopped P) : P := h
theorem Stopped.elim {P : Prop} (h : P) : Stopped P := h

/-- what is behind a statement: the rest of its block -/
noncomputable abbrev SeqQ (M : Model) (A : Around) (rest : List Stmt) (env : Env) (Q : Flow → Shared → Prop) (E : Value → Shared → Prop) : Flow → Shared → Prop :=
  fun f s' => match f with | .next => wpAny M A (execs rest env) Q E s' | f => Q f s'
theorem SeqQ.next {M : Model} {A : Around} {rest : List Stmt} {env : Env} {Q : Flow → Shared → Prop} {E : Value → Shared → Prop} {s' : Shared} (h : wpAny M A (execs rest env) Q E s') : SeqQ M A rest env Q E .next s' := h
theorem execs_consS {M : Model} {A : Around} {st : Stmt} {rest : List Stmt} {env : Env} {Q : Flow → Shared → Prop} {E : Value → Shared → Prop} {s : Shared}
    (h : wpAny M A (exec st env) (SeqQ M A rest env Q E) E s) : wpAny M A (execs (st :: rest) env) Q E s := wpAny_execs_cons h
/-- what the caller's heap holds behind the hidden objects is the ground of the called function -/
theorem ground_fr {h h₁ : Heap} {muts : List Addr} {m : Str → Option Value} (ns : h₁.Ns h.objs.size m) (up : h.StaysIn h₁) : Fr (hideAll h muts) h.objs.size h₁ m where
  ns := ns
  keep := fun b o e => up b o (of_hideAll _ e)
  above := Nat.le_of_eq (hideAll_size muts h)
/-- and the hidden objects are its ledger -/
theorem ground_news {h h₁ : Heap} {muts : List Addr} (up : h.StaysIn h₁) {news : List (Addr × Obj)} (hn : ∀ p ∈ news, h.get? p.1 = some p.2 ∧ p.1 ∈ muts) : News (hideAll h muts) h.objs.size h₁ news := by
  intro p hp
  have x := hn p hp
  exact ⟨up p.1 p.2 x.1, Nat.ne_of_lt (Heap.lt_size x.1), hideAll_none _ x.2⟩
/-- a plain function is entered: its namespace holds what was handed to it, all else stands -/
theorem call_in {prog : Program} {w : World} {A : Around} {s : Shared} {K : Frag}
    {R E : Value → Shared → Prop} {name qual : Str} {params : Arguments} {body : List Stmt} {scope : Scope} {dV kV doc pm cdv ct oc : Value} {an od : Option Addr} {osl : Array (Option Value)} {f : Addr} {args : List Value} {binds : List (Str × Value)}
    (X : K.In s.heap) (hlim : s.heap.NoLimit)
    (ho : K.lookup f = some ⟨oc, od, .func (fnOf name qual params body scope dV kV doc pm an cdv ct), osl⟩) (hcd : codeIn K cdv qual = true) (hroom : A.depth < recursionLimit)
    (hbind : BindsTo s (fnOf name qual params body scope dV kV doc pm an cdv ct) ⟨args, []⟩ binds) (hloc : ∀ y ∈ binds, scope.names.lookup y.1 = some .local)
    (hco : scope.isCoroutine = false) (hgen : scope.isGenerator = false) (hk : scope.kind = .function) (hcell : ∀ x ∈ scope.names, x.2 ≠ .cell)
    (h : ∀ h₁ tk, h₁.Ns s.heap.objs.size (fun y => binds.reverse.lookup y) → s.heap.StaysIn h₁ →
      wpAny (model prog w) (A.deeper (envOf qual scope s.heap.objs.size f cdv)) (execs body (envOf qual scope s.heap.objs.size f cdv))
        (fun fl s' => R (match fl with | .ret v => v | _ => .none) s')
        (fun e s' => wpAny (model prog w) (A.deeper (envOf qual scope s.heap.objs.size f cdv)) (leaving (envOf qual scope s.heap.objs.size f cdv) e) (fun _ s'' => E e s'') (fun e' s'' => E e' s'') s')
        { s with heap := h₁, toks := tk }) : wpAny (model prog w) A (call (.ref f) args) R E s :=
  wpAny_call (codeAny_call_def hroom (X f _ ho) rfl hlim (codeRec_of X hcd) rfl hbind hcell hloc (fun h₁ ns up => h h₁ _ ns up) hco hgen hk)
theorem call_mine {prog : Program} {w : World} {A : Around} {s : Shared} {K : Frag}
    {R E : Value → Shared → Prop} {name qual : Str} {params : Arguments} {body : List Stmt} {scope : Scope} {dV kV doc pm cdv ct oc : Value} {an od : Option Addr} {osl : Array (Option Value)} {f : Addr} {args : List Value} {binds : List (Str × Value)}
    (muts : List Addr) (ps : List (Str × Value)) (X : K.In s.heap) (hlim : s.heap.NoLimit)
    (ho : K.lookup f = some ⟨oc, od, .func (fnOf name qual params body scope dV kV doc pm an cdv ct), osl⟩) (hcd : codeIn K cdv qual = true) (hroom : A.depth < recursionLimit)
    (hbind : BindsTo s (fnOf name qual params body scope dV kV doc pm an cdv ct) ⟨args, []⟩ binds) (hloc : ∀ y ∈ binds, scope.names.lookup y.1 = some .local)
    (hps : binds.reverse = ps)
    (h : ∀ g L' h₁ tk, (∀ b o, g.get? b = some o → s.heap.get? b = some o) → (∀ b o, s.heap.get? b = some o → b ∉ muts → g.get? b = some o) →
      Fr g L' h₁ (fun y => ps.lookup y) → (∀ news : List (Addr × Obj), (∀ p ∈ news, s.heap.get? p.1 = some p.2 ∧ p.1 ∈ muts) → News g L' h₁ news) →
      wpAny (model prog w) (A.deeper (envOf qual scope L' f cdv)) (execs body (envOf qual scope L' f cdv))
        (fun fl s' => R (match fl with | .ret v => v | _ => .none) s') (fun _ _ => False)
        { s with heap := h₁, toks := tk })
    (hco : scope.isCoroutine = false) (hgen : scope.isGenerator = false) (hk : scope.kind = .function)
    (hcell : ∀ x ∈ scope.names, x.2 ≠ .cell) : wpAny (model prog w) A (call (.ref f) args) R E s := by
  subst hps
  exact call_in X hlim ho hcd hroom hbind hloc hco hgen hk hcell fun h₁ tk ns up =>
    wpAny_mono (h _ _ h₁ tk (fun _ _ => of_hideAll _) (fun _ _ e hb => hideAll_get _ e hb) (ground_fr ns up) fun _ hn => ground_news up hn) (fun _ _ r => r) fun _ _ => False.elim
end Mine
end
section
-- B2
open PySem PySem.W PyProof.Rows PySem.Calls PySem.Spec
namespace Mine
abbrev tupO (xs : Array Value) (n : Nat) : Obj := { cls := .type "tuple", data := .seq xs n }

noncomputable def lt3 (x y z x' y' z' : Int) : Bool := decide (x < x') || (decide (x = x') && (decide (y < y') || (decide (y = y') && decide (z < z'))))

section
variable {prog : Program} {w : World} {A : Around} {E : Value → Shared → Prop} {s : Shared}
theorem tup3_lt_tree {a b : Addr} {x y z x' y' z' : Int} {t1 t2 t3 u1 u2 u3 : Tok} {n k : Nat} {P : PySem.Fin → Shared → Prop}
    (ha : s.heap.get? a = some (tupO #[.int x t1, .int y t2, .int z t3] n)) (hb : s.heap.get? b = some (tupO #[.int x' u1, .int y' u2, .int z' u3] k))
    (h : P (.done (.ret (.bool (lt3 x y z x' y' z')))) s) : wpAny (model prog w) A (Builtin.«tuple.__lt__» ⟨[.ref a, .ref b], []⟩) P E s := by
  have isTup : s.TypeIs (.ref b) "tuple" := ⟨_, hb, rfl⟩
  refine wpAny_bind (wpAny_of_eq (a := (Value.ref a, [Value.ref b])) rfl (wpAny_bind (wpAny_isInstance isTup isSubtype_tuple_tuple ?_)))
  refine wpAny_bind (wpAny_tupleItemsOf ha rfl (wpAny_bind (wpAny_tupleItemsOf hb rfl ?_)))
  have ez : (#[Value.int x t1, .int y t2, .int z t3] : Array Value).toList.zip (#[Value.int x' u1, .int y' u2, .int z' u3] : Array Value).toList = [(Value.int x t1, Value.int x' u1), (Value.int y t2, Value.int y' u2), (Value.int z t3, Value.int z' u3)] := rfl
  rw [ez]
  simp only [List.forIn_cons, List.forIn_nil]
  refine wpAny_bind ?_
  refine wpAny_bind (wpAny_bind (wpAny_eqBool_int ?_))
  unfold lt3 at h
  by_cases hx : x = x'
  · subst hx
    simp only [Int.lt_irrefl, decide_true, decide_false, Bool.false_or, Bool.true_and, beq_self_eq_true, Bool.not_true, Bool.false_eq_true, if_false] at h ⊢
    refine wpAny_pure ?_
    try dsimp only
    refine wpAny_bind (wpAny_bind (wpAny_eqBool_int ?_))
    by_cases hy : y = y'
    · subst hy
      simp only [Int.lt_irrefl, decide_true, decide_false, Bool.false_or, Bool.true_and, beq_self_eq_true, Bool.not_true, Bool.false_eq_true, if_false] at h ⊢
      refine wpAny_pure ?_
      try dsimp only
      refine wpAny_bind (wpAny_bind (wpAny_eqBool_int ?_))
      by_cases hz : z = z'
      · subst hz
        simp only [Int.lt_irrefl, decide_false, beq_self_eq_true, Bool.not_true, Bool.false_eq_true, if_false] at h ⊢
        exact wpAny_pure (wpAny_pure (wpAny_pure h))
      · have e : (!(z == z')) = true := by simp [hz]
        rw [if_pos e]
        refine wpAny_bind (wpAny_rule (wpAny_bind (lt_int (wpAny_bind (wpAny_pure (wpAny_pure ?_))))))
        exact wpAny_pure (wpAny_pure h)
    · have e : (!(y == y')) = true := by simp [hy]
      have ed : decide (y = y') = false := by simp [hy]
      rw [if_pos e]
      rw [ed, Bool.false_and, Bool.or_false] at h
      refine wpAny_bind (wpAny_rule (wpAny_bind (lt_int (wpAny_bind (wpAny_pure (wpAny_pure ?_))))))
      exact wpAny_pure (wpAny_pure h)
  · have e : (!(x == x')) = true := by simp [hx]
    have ed : decide (x = x') = false := by simp [hx]
    rw [if_pos e]
    rw [ed, Bool.false_and, Bool.or_false] at h
    refine wpAny_bind (wpAny_rule (wpAny_bind (lt_int (wpAny_bind (wpAny_pure (wpAny_pure ?_))))))
    exact wpAny_pure (wpAny_pure h)

theorem tup3_lt {a b : Addr} {x y z x' y' z' : Int} {t1 t2 t3 u1 u2 u3 : Tok} {n k : Nat} {Q : Value → Shared → Prop} (hu : A.units < cLine)
    (ha : s.heap.get? a = some (tupO #[.int x t1, .int y t2, .int z t3] n)) (hb : s.heap.get? b = some (tupO #[.int x' u1, .int y' u2, .int z' u3] k))
    (h : Q (.bool (lt3 x y z x' y' z')) s) : wpAny (model prog w) A (compareOp .Lt (.ref a) (.ref b)) Q E s := by
  show wpAny (model prog w) A (richCompare .Lt (.ref a) (.ref b)) Q E s
  have hTa : s.TypeIs (.ref a) "tuple" := ⟨_, ha, rfl⟩
  have hTb : s.TypeIs (.ref b) "tuple" := ⟨_, hb, rfl⟩
  exact wpAny_richCompare_same_room (op := .Lt) hTa hTb F.slot_tuple_lt
      (wpAny_call_entry F.slot_tuple_lt hTa F.entry_tuple_lt (tup3_lt_tree ha hb ⟨_, rfl, (fun e => nomatch e), h⟩) (F.args_tuple_lt_2 _ _)) hu

/-- the value is a tuple of three small ints with this key -/
inductive IsT3 (h : Heap) (v : Value) (k : Int) : Prop
  | mk : ∀ a t1 t2 t3 n x y z, (v = .ref a ∧ h.get? a = some (tupO #[.int x t1, .int y t2, .int z t3] n) ∧ 0 ≤ x ∧ x < 32 ∧ 0 ≤ y ∧ y < 32 ∧ 0 ≤ z ∧ z < 32 ∧ k = x * 1024 + y * 32 + z) → IsT3 h v k
theorem IsT3.keeps {h h' : Heap} {v : Value} {k : Int} {S : List Addr} (x : IsT3 h v k) (st : Stays S h h') (hS : ∀ a ∈ S, ∀ o, h.get? a = some o → o.cls = .type "list") : IsT3 h' v k := by
  obtain ⟨a, t1, t2, t3, n, x, y, z, rfl, ha, r⟩ := x
  exact ⟨a, t1, t2, t3, n, x, y, z, rfl, st a _ (fun hm => by have := hS a hm _ ha; simp [tupO] at this) ha, r⟩

theorem lt3_key {x y z x' y' z' : Int} (h : 0 ≤ x ∧ x < 32 ∧ 0 ≤ y ∧ y < 32 ∧ 0 ≤ z ∧ z < 32) (h' : 0 ≤ x' ∧ x' < 32 ∧ 0 ≤ y' ∧ y' < 32 ∧ 0 ≤ z' ∧ z' < 32) :
    lt3 x y z x' y' z' = decide (x * 1024 + y * 32 + z < x' * 1024 + y' * 32 + z') := by
  unfold lt3
  rw [Bool.eq_iff_iff]
  simp only [Bool.or_eq_true, Bool.and_eq_true, decide_eq_true_eq]
  (first | lia | omega)

theorem T3_lt {v v' : Value} {k k' : Int} {Q : Value → Shared → Prop} (hu : A.units < cLine) (ha : IsT3 s.heap v k) (hb : IsT3 s.heap v' k')
    (h : Q (.bool (decide (k < k'))) s) : wpAny (model prog w) A (compareOp .Lt v v') Q E s := by
  obtain ⟨a, t1, t2, t3, n, x, y, z, rfl, ha, r⟩ := ha
  obtain ⟨b, u1, u2, u3, m, x', y', z', rfl, hb, r'⟩ := hb
  refine tup3_lt hu ha hb ?_
  rw [lt3_key (by (first | lia | omega)) (by (first | lia | omega))]
  rw [show x * 1024 + y * 32 + z = k by (first | lia | omega), show x' * 1024 + y' * 32 + z' = k' by (first | lia | omega)]
  exact h

/-- two lists side by side -/
inductive All2 {α β : Type} (R : α → β → Prop) : List α → List β → Prop
  | nil : All2 R [] []
  | cons {a b l l'} : R a b → All2 R l l' → All2 R (a :: l) (b :: l')
theorem All2.length {α β : Type} {R : α → β → Prop} : ∀ {l : List α} {l' : List β}, All2 R l l' → l.length = l'.length
  | _, _, .nil => rfl
  | _, _, .cons _ t => congrArg (· + 1) t.length
theorem All2.get {α β : Type} {R : α → β → Prop} : ∀ {l : List α} {l' : List β}, All2 R l l' → ∀ {i : Nat} {b : β}, l'[i]? = some b → ∃ a, l[i]? = some a ∧ R a b
  | _, _, .nil, i, b, h => by simp at h
  | _, _, .cons r t, 0, b, h => by simp at h; subst h; exact ⟨_, rfl, r⟩
  | _, _, .cons r t, i + 1, b, h => by
    have := t.get (i := i) (b := b) (by simpa using h)
    simpa using this
theorem All2.set {α β : Type} {R : α → β → Prop} : ∀ {l : List α} {l' : List β}, All2 R l l' → ∀ (i : Nat) {a : α} {b : β}, R a b → All2 R (l.set i a) (l'.set i b)
  | _, _, .nil, i, _, _, _ => .nil
  | _, _, .cons r t, 0, _, _, h => .cons h t
  | _, _, .cons r t, i + 1, _, _, h => .cons r (t.set i h)
theorem All2.mono {α β : Type} {R R' : α → β → Prop} (hm : ∀ a b, R a b → R' a b) : ∀ {l : List α} {l' : List β}, All2 R l l' → All2 R' l l'
  | _, _, .nil => .nil
  | _, _, .cons r t => .cons (hm _ _ r) (t.mono hm)
theorem All2.append {α β : Type} {R : α → β → Prop} : ∀ {l : List α} {l' : List β} {k : List α} {k' : List β}, All2 R l l' → All2 R k k' → All2 R (l ++ k) (l' ++ k')
  | _, _, _, _, .nil, h => h
  | _, _, _, _, .cons r t, h => .cons r (t.append h)
theorem All2.snoc {α β : Type} {R : α → β → Prop} {l : List α} {l' : List β} {a : α} {b : β} (t : All2 R l l') (r : R a b) : All2 R (l ++ [a]) (l' ++ [b]) := t.append (.cons r .nil)
theorem All2.dropLast {α β : Type} {R : α → β → Prop} : ∀ {l : List α} {l' : List β}, All2 R l l' → All2 R l.dropLast l'.dropLast
  | _, _, .nil => .nil
  | _, _, .cons r .nil => .nil
  | _, _, .cons r (.cons r' t) => .cons r (All2.dropLast (.cons r' t))
end

noncomputable def mapOf (ps : List (Str × Value)) (m : Str → Option Value) : Str → Option Value := fun y => match ps.lookup y with | some v => some v | none => m y
theorem fr_map {h₀ h : Heap} {L : Addr} {m : Str → Option Value} (ps : List (Str × Value)) (hp : ∀ p ∈ ps, m p.1 = some p.2) (F : Fr h₀ L h m) : Fr h₀ L h (mapOf ps m) := by
  have e : mapOf ps m = m := by
    funext y
    unfold mapOf
    cases q : ps.lookup y with
    | none => rfl
    | some v =>
      have : ∀ (l : List (Str × Value)), l.lookup y = some v → (y, v) ∈ l := by
        intro l
        induction l with
        | nil => intro h; cases h
        | cons p r ih =>
          intro h
          rw [List.lookup_cons] at h
          split at h
          · rename_i hb
            have := eq_of_beq hb
            cases h
            rw [this]
            exact .head _
          · exact .tail _ (ih h)
      exact (hp _ (this ps q)).symm
  rw [e]; exact F

theorem IsT3.lift {h h' : Heap} {v : Value} {k : Int} (x : IsT3 h v k) (st : h.StaysIn h') : IsT3 h' v k := by
  obtain ⟨a, t1, t2, t3, n, x, y, z, rfl, ha, r⟩ := x
  exact ⟨a, t1, t2, t3, n, x, y, z, rfl, st a _ ha, r⟩
section
variable {prog : Program} {w : World} {A : Around} {E : Value → Shared → Prop} {s : Shared} {g : Heap} {L hp : Addr} {m : Str → Option Value} {news news' : List (Addr × Obj)} {vs : List Value} {xs : List Int} {cnt : Nat} {k : Int} {t : Tok}
theorem it_get {Q : Value → Shared → Prop} (N : News g L s.heap news) (hm : (hp, listOf vs.toArray cnt) ∈ news) (ha : All2 (IsT3 g) vs xs) (h0 : 0 ≤ k) (h1 : k < xs.length) (hf : xs.length < 1000)
    (h : ∀ v, IsT3 g v (gD xs k.toNat) → vs[k.toNat]? = some v → Q v s) : wpAny (model prog w) A (getItem (.ref hp) (.int k t)) Q E s := by
  obtain ⟨v, hv, r⟩ := ha.get (gD_some (xs := xs) (i := k.toNat) (by (first | lia | omega)))
  exact wpAny_getItem_list (PySem.IsL.isList (n := cnt) (N _ hm).1) h0 (by (first | lia | omega)) (by simpa using hv) (h v r hv)
theorem it_sub {value slice : PySem.Expr} {Q : Value → Shared → Prop} (N : News g L s.heap news) (hm : (hp, listOf vs.toArray cnt) ∈ news) (ha : All2 (IsT3 g) vs xs) (h0 : 0 ≤ k) (h1 : k < xs.length) (hf : xs.length < 1000)
    (h : ∀ v, IsT3 g v (gD xs k.toNat) → vs[k.toNat]? = some v → Q v s)
    (hs : subscripted slice false (.ref hp) (.int k t) = operate [.ref hp, .int k t] (getItem (.ref hp) (.int k t)) := by with_unfolding_all rfl) :
    wpAny (model prog w) A (subscriptTail value slice (.ref hp) (.int k t)) Q E s :=
  tail_any (PySem.IsL.isList (n := cnt) (N _ hm).1).typeIs slot_list_getitem.lookup (it_get N hm ha h0 h1 hf h) hs
theorem it_set {Q : Unit → Shared → Prop} {v : Value} {x : Int} (F : Fr g L s.heap m) (N : News g L s.heap news) (U : Upd hp (listOf vs.toArray cnt) (listOf (vs.set k.toNat v).toArray cnt) news news') (ha : All2 (IsT3 g) vs xs) (hv : IsT3 g v x)
    (h0 : 0 ≤ k) (h1 : k < xs.length) (hf : xs.length < 1000)
    (h : ∀ h', Fr g L h' m → News g L h' news' → All2 (IsT3 g) (vs.set k.toNat v) (xs.set k.toNat x) → Q () { s with heap := h' }) :
    wpAny (model prog w) A (setItem (.ref hp) (.int k t) v) Q E s := by
  have size : vs.length = xs.length := ha.length
  have ⟨pre, post, split, split', a, b⟩ := U.split
  have ⟨at_, neL, new⟩ := N (hp, listOf vs.toArray cnt) (split ▸ List.mem_append_right pre (.head post))
  subst split split'
  refine ki_setAt at_ h0 (by (first | lia | omega)) (by rw [List.size_toArray]; (first | lia | omega)) (h _ (F.change (Heap.SameBut.update ..) neL new) (ki_turn _ N a b ?_ ?_) (ha.set _ hv))
  · rw [List.setIfInBounds_toArray]
  · rw [List.size_toArray, List.size_toArray, List.length_set, if_pos (beq_self_eq_true _)]
theorem it_append {v : Value} {x : Int} {Q : Value → Shared → Prop} (F : Fr g L s.heap m) (N : News g L s.heap news) (U : Upd hp (listOf vs.toArray cnt) (listOf (vs ++ [v]).toArray (cnt + 1)) news news') (ha : All2 (IsT3 g) vs xs) (hv : IsT3 g v x) (hf : xs.length < 1000)
    (h : ∀ h', Fr g L h' m → News g L h' news' → All2 (IsT3 g) (vs ++ [v]) (xs ++ [x]) → Q .none { s with heap := h' }) : wpAny (model prog w) A (call (.builtin "list.append") [.ref hp, v]) Q E s := by
  have hl := ha.length
  refine append_K (its := vs.toArray) F N (by simpa using U) (fun h' F' N' => h h' F' N' (ha.snoc hv)) ?_
  rw [List.size_toArray, sizeLine_eq]; (first | lia | omega)
theorem it_pop {v : Value} {Q : Value → Shared → Prop} (F : Fr g L s.heap m) (N : News g L s.heap news) (U : Upd hp (listOf (vs ++ [v]).toArray cnt) (listOf vs.toArray (cnt + 1)) news news') (ha : All2 (IsT3 g) vs xs) (hf : xs.length < 1000)
    (h : ∀ h', Fr g L h' m → News g L h' news' → Q v { s with heap := h' }) : wpAny (model prog w) A (call (.builtin "list.pop") [.ref hp]) Q E s := by
  have hl := ha.length
  refine kl_pop F N (p := vs) (y := v) ?_ U (by rw [sizeLine_eq]; simp; (first | lia | omega)) h
  simpa using kpa_last v vs
theorem it_len {Q : Value → Shared → Prop} (N : News g L s.heap news) (hm : (hp, listOf vs.toArray cnt) ∈ news) (ha : All2 (IsT3 g) vs xs) (hf : xs.length < 1000)
    (h : ∀ t' tk', Q (.int xs.length t') { s with toks := tk' }) : wpAny (model prog w) A (call (.builtin "len") [.ref hp]) Q E s := by
  have hl := ha.length
  refine len_list (PySem.IsL.isList (n := cnt) (N _ hm).1) (by rw [List.size_toArray]; (first | lia | omega)) ?_
  rw [List.size_toArray, hl]
  exact h _ _
theorem it_truthy {Q : Bool → Shared → Prop} (N : News g L s.heap news) (hm : (hp, listOf vs.toArray cnt) ∈ news) (ha : All2 (IsT3 g) vs xs) (hf : xs.length < 1000)
    (h : ∀ tk', Q (decide (0 < xs.length)) { s with toks := tk' }) : wpAny (model prog w) A (truthy (.ref hp)) Q E s := by
  have hl := ha.length
  refine wpAny_truthy_list (PySem.IsL.isList (n := cnt) (N _ hm).1) (by rw [List.size_toArray]; (first | lia | omega)) ?_
  have e : (!vs.toArray.isEmpty) = decide (0 < xs.length) := by
    cases vs <;> cases xs <;> simp_all
  rw [e]
  exact h _
theorem st_int {name : Str} {scope : Scope} {a : Addr} {cd : Value} {x : Str} {i : Int} {t : Tok} {Q : Unit → Shared → Prop} (F : Fr g L s.heap m) (N : News g L s.heap news)
    (h : ∀ h' t' tk', Fr g L h' (fun y => if y = x then some (.int i t') else m y) → News g L h' news → Q () { s with heap := h', toks := tk' })
    (hk : scope.kind = .function := by rfl) (hl : (envOf name scope L a cd).kindOf x = some .local := by rfl) :
    wpAny (model prog w) A (storeName (envOf name scope L a cd) x (.int i t)) Q E s := stN F N (fun h' F' N' => h h' t _ F' N') hk hl
theorem st_str {name : Str} {scope : Scope} {a : Addr} {cd : Value} {x : Str} {i : Str} {t : Tok} {Q : Unit → Shared → Prop} (F : Fr g L s.heap m) (N : News g L s.heap news)
    (h : ∀ h' t' tk', Fr g L h' (fun y => if y = x then some (.str i t') else m y) → News g L h' news → Q () { s with heap := h', toks := tk' })
    (hk : scope.kind = .function := by rfl) (hl : (envOf name scope L a cd).kindOf x = some .local := by rfl) :
    wpAny (model prog w) A (storeName (envOf name scope L a cd) x (.str i t)) Q E s := stN F N (fun h' F' N' => h h' t _ F' N') hk hl
theorem st_any {name : Str} {scope : Scope} {a : Addr} {cd : Value} {x : Str} {v : Value} {Q : Unit → Shared → Prop} (F : Fr g L s.heap m) (N : News g L s.heap news)
    (h : ∀ h' tk', Fr g L h' (fun y => if y = x then some v else m y) → News g L h' news → Q () { s with heap := h', toks := tk' })
    (hk : scope.kind = .function := by rfl) (hl : (envOf name scope L a cd).kindOf x = some .local := by rfl) :
    wpAny (model prog w) A (storeName (envOf name scope L a cd) x v) Q E s := stN F N (fun h' F' N' => h h' _ F' N') hk hl
theorem shr1 {a : Int} {u : Tok} {Q : Value → Shared → Prop} (h : ∀ t' tk', Q (.int (a / 2) t') { s with toks := tk' }) : wpAny (model prog w) A (binaryOp .RShift (.int a t) (.int 1 u)) Q E s := by
  refine rshift_int (by decide) ?_
  have e : a.fdiv (2 ^ Int.toNat 1) = a / 2 := by
    rw [show (2 : Int) ^ Int.toNat 1 = 2 from rfl, Int.fdiv_eq_ediv_of_nonneg _ (by decide)]
  rw [e]
  exact h _ _
theorem it_lt {a b : Value} {x y : Int} {Q : Value → Shared → Prop} (hu : A.units < cLine) (F : Fr g L s.heap m) (ha : IsT3 g a x) (hb : IsT3 g b y) (h : Q (.bool (decide (x < y))) s) : wpAny (model prog w) A (compareOp .Lt a b) Q E s :=
  T3_lt hu (ha.lift F.keep) (hb.lift F.keep) h
end

theorem back_call {g h h' : Heap} {L hp : Addr} {m : Str → Option Value} {o o' : Obj} (F : Fr g L h m) (N : News g L h [(hp, o)]) (st : Stays [hp] h h') (ho : h'.get? hp = some o') : Fr g L h' m ∧ News g L h' [(hp, o')] := by
  have hn := N _ (.head _)
  have hs : ∀ b o, g.get? b = some o → b ∉ [hp] := fun b o e hm => by
    rw [List.mem_singleton] at hm; subst hm; rw [hn.2.2] at e; cases e
  refine ⟨⟨?_, fun b o e => st b o (hs b o e) (F.keep b o e), F.above⟩, fun p hp' => ?_⟩
  · obtain ⟨oL, es, ep, hL, r⟩ := F.ns
    exact ⟨oL, es, ep, st L oL (fun hm => hn.2.1 (List.mem_singleton.mp hm).symm) hL, r⟩
  · rw [List.mem_singleton] at hp'; subst hp'; exact ⟨ho, hn.2⟩

/-- the context of every call: the top's heap below -/
structure Ctx (w : World) (hT h : Heap) : Prop where
  X : (hd.heap_39 w.params).In hT
  T : ∃ p loose mean mg mb, Top p loose mean mg mb hT
  st : hT.StaysIn h
theorem Ctx.stays {w : World} {hT h h' : Heap} {S : List Addr} (C : Ctx w hT h) (st : Stays S h h') (hS : ∀ a ∈ S, hT.get? a = none) : Ctx w hT h' :=
  ⟨C.X, C.T, fun b o e => st b o (fun hm => by rw [hS b hm] at e; cases e) (C.st b o e)⟩
theorem Ctx.In {w : World} {hT h : Heap} (C : Ctx w hT h) : (hd.heap_39 w.params).In h := C.X.keeps C.st
end Mine
end
section
-- S1
open PySem PySem.W PyProof.Rows PySem.Calls PySem.Spec
namespace Mine
theorem fill : ∀ (w : World) (h : Heap), (hd.heap_39 w.params).In h → PySem.Challenge.rw_un0012_01.Holds → True := by
  k_fill
  intros; trivial

theorem lines_S1_1 : True := by
  k_with_none
  k_with "execs nil" => (k_here; first | k_gentoks | (refine SeqQ.next ?_; k_gentoks) | refine wpAny_execs_nil ?_)
  k_with "execs cons" => (k_here; first | k_gentoks | (refine SeqQ.next ?_; k_gentoks) | refine execs_consS ?_)
  k_with "subscriptTail" => (k_here; (with_reducible show wpAny _ _ (subscriptTail _ _ (Value.ref _) (Value.int _ _)) _ _ _); (with_unfolding_all refine' it_sub ?zqk1 ?zqk2 ?zqk3 ?zqk4 ?zqk5 ?zqk6 ?_ ?zqk7; (case zqk1 => k_asm); (case zqk2 => k_mem); (case zqk3 => k_asm); (case zqk4 => (first | lia | omega)); (case zqk5 => (first | lia | omega)); (case zqk6 => (first | lia | omega)); (case zqk7 => with_unfolding_all rfl); k_whole); intro _ _ _)
  k_with "setItem ref int" => (k_here; (with_unfolding_all refine' it_set ?zqk1 ?zqk2 ?zqkU ?zqk3 ?zqkv ?zqk4 ?zqk5 ?zqk6 ?_; (case zqk1 => k_asm); (case zqk2 => k_asm); (case zqkU => k_upd); (case zqk3 => k_asm); (case zqkv => k_asm); (case zqk4 => (first | lia | omega)); (case zqk5 => (first | lia | omega)); (case zqk6 => (first | lia | omega)); k_whole); intro _ _ _ _; (try k_sweep))
  k_with "compareOp Lt" => (k_here; (with_unfolding_all refine' it_lt ?zqk1 ?zqk2 ?zqk3 ?zqk4 ?_; (case zqk1 => (simp only [units_in1, units_deeper, Around.mark_units, units_caller] at *; (first | lia | omega))); (case zqk2 => k_asm); (case zqk3 => k_asm); (case zqk4 => k_asm); k_whole))
  trivial

theorem lines_S1_2 : True := by
  k_with "storeName" => (k_here; (first
    | (with_unfolding_all refine' st_int ?zqF ?zqN ?_ ?zqa ?zqb; (case zqF => k_asm); (case zqN => k_asm); (case zqa => rfl); (case zqb => rfl); k_whole; intro _ _ _ _ _)
    | (with_unfolding_all refine' st_str ?zqF ?zqN ?_ ?zqa ?zqb; (case zqF => k_asm); (case zqN => k_asm); (case zqa => rfl); (case zqb => rfl); k_whole; intro _ _ _ _ _)
    | (with_unfolding_all refine' st_any ?zqF ?zqN ?_ ?zqa ?zqb; (case zqF => k_asm); (case zqN => k_asm); (case zqa => rfl); (case zqb => rfl); k_whole; intro _ _ _ _)); (try k_sweep); (try dsimp only))
  k_with "binaryOp RShift int int" => (k_here; refine shr1 ?_; intro _ _; (try dsimp only))
  k_with "WhileStep2" => refine Stopped.intro ?_
  k_with "exec While Compare cons nil" => refine Stopped.intro ?_
  trivial

inductive SdJ (g : Heap) (hp : Addr) (cnt n : Nat) (xs : List Int) (t1 : Tok) (sm : Nat) (m : Str → Option Value) (news : List (Addr × Obj)) : Prop
  | mk (vs' : List Value) (ys : List Int) (vn : Value) (x : Int) (t2 : Tok) :
    (news = [(hp, W.listOf vs'.toArray cnt)]) →
    (All2 (IsT3 g) vs' ys) →
    (IsT3 g vn x) →
    (ys.length = n) →
    (sm < n) →
    (m "heap" = some (.ref hp)) →
    (m "startpos" = some (.int 0 t1)) →
    (m "pos" = some (.int sm t2)) →
    (m "newitem" = some vn) →
    (HB n (gD (ys.set sm x)) sm) →
    (∀ k, k ∈ ys.set sm x ↔ k ∈ xs) →
    SdJ g hp cnt n xs t1 sm m news
/-- what _siftdown and _siftup leave: the heap list is a heap of the same keys; nothing else has changed -/
inductive SPostE (hp : Addr) (cnt : Nat) (xs : List Int) (s : Shared) (r : Value) (s' : Shared) : Prop
  | mk : ∀ h' tk' vs' xs', (s' = { s with heap := h', toks := tk' } ∧ Stays [hp] s.heap h' ∧ h'.get? hp = some (W.listOf vs'.toArray cnt) ∧ All2 (IsT3 h') vs' xs' ∧ xs'.length = xs.length ∧ HeapOK xs.length (gD xs') ∧ ∀ k, k ∈ xs' ↔ k ∈ xs) → SPostE hp cnt xs s r s'
noncomputable def SPost (hp : Addr) (cnt : Nat) (xs : List Int) (s : Shared) (r : Value) (s' : Shared) : Prop := r = .none ∧ SPostE hp cnt xs s r s'

set_option maxHeartbeats 8000000 in
theorem sd : ∀ (w : World) (hT : Heap) (A : Around) (s : Shared) (hp : Addr) (vs : List Value) (xs : List Int) (cnt pos : Nat) (t1 t2 : Tok) (E : Value → Shared → Prop),
    A.depth + 5 < recursionLimit → A.units + 40 < cLine → Ctx w hT s.heap → hT.get? hp = none → s.heap.get? hp = some (W.listOf vs.toArray cnt) → All2 (IsT3 s.heap) vs xs → pos < xs.length → xs.length < 1000 →
    HB xs.length (gD xs) pos →
    wpAny (model PySem.Challenge.rw_un0012_01.row.prog w) A (call (.ref 35) [.ref hp, .int 0 t1, .int pos t2]) (SPost hp cnt xs s) E s := by
  intro w hT A s hp vs xs cnt pos t1 t2 E hdp hun C hhp hl hxs hpos hlen hB
  obtain ⟨p, loose, mean, mg, mb, T⟩ := C.T
  k_dflt (refine' call_mine [hp] [("pos", .int pos t2), ("startpos", .int 0 t1), ("heap", .ref hp)] C.In (T.nolimit.keeps C.st) (by k_is) (by k_is) (by first | lia | omega) (by exact BindsTo.of_eq rfl) (by exact locs rfl) (by exact rfl) ?_ (by exact rfl) (by exact rfl) (by exact rfl) (by decide); k_whole)
  intro g L' h₁ tk₁ hgs hsg F N
  replace N := N [(hp, W.listOf vs.toArray cnt)] (by intro p hp'; rw [List.mem_singleton] at hp'; subst hp'; exact ⟨hl, by simp⟩)
  have gst : hT.StaysIn g := fun b o e => hsg b o (C.st b o e) (fun hm => by rw [List.mem_singleton] at hm; subst hm; rw [hhp] at e; cases e)
  have X' := C.X.keeps gst
  have T' := T.keeps gst
  have hxs' : All2 (IsT3 g) vs xs := hxs.mono fun v k ⟨a, t1, t2, t3, n, x, y, z, e, ha, r⟩ => ⟨a, t1, t2, t3, n, x, y, z, e, hsg a _ ha (by intro hm; rw [List.mem_singleton] at hm; subst hm; rw [hl] at ha; simp [W.listOf] at ha), r⟩
  clear hxs
  have fin : ∀ (h' : Heap) (tk : Nat) (m : Str → Option Value) (vs' : List Value) (ys : List Int), Fr g L' h' m → News g L' h' [(hp, W.listOf vs'.toArray cnt)] → All2 (IsT3 g) vs' ys → ys.length = xs.length → HeapOK xs.length (gD ys) → (∀ k, k ∈ ys ↔ k ∈ xs) →
      SPost hp cnt xs s .none { s with heap := h', toks := tk } := fun h' tk m vs' ys F N a b c d =>
    ⟨rfl, h', tk, vs', ys, rfl, fun b o hb e => F.keep b o (hsg b o e hb), (N _ (.head _)).1, a.mono fun _ _ x => x.lift F.keep, b, c, d⟩
  try dsimp only
  k_steps
  show wpAny _ _ _ _ _ _
  rename_i vn hvn hgn h₁ tk₁ F N
  refine While_inv2 (SdJ g hp cnt xs.length xs t1) F N ?_ ?_ PassesOwn.never (n₀ := pos)
  · refine ⟨vs, xs, vn, gD xs pos, t2, rfl, hxs', hvn, rfl, hpos, rfl, rfl, rfl, rfl, ?_, ?_⟩
    · rw [set_self hpos]; exact hB
    · rw [set_self hpos]; exact fun _ => Iff.rfl
  · rintro n m₁ news₁ h₂ tk₂ F₂ N₂ ⟨vs', ys, vn', x, t2', rfl, hA, hvn', hyl, hn, e1, e2, e3, e4, hHB, hmem⟩
    clear F N hvn hgn
    replace F₂ := fr_map [("pos", .int n t2'), ("startpos", .int 0 t1), ("heap", .ref hp), ("newitem", vn')] (by intro p hp; simp only [List.mem_cons, List.not_mem_nil, or_false] at hp; rcases hp with rfl | rfl | rfl | rfl <;> assumption) F₂
    clear hxs' hB e1 e2 e3 e4
    k_steps
    · rename_i hpos' _ _ _ _ _ v hv hg _ _ hlt h₃ hA₃ h₄ t₄ tk₄ F₄ N₄
      have eq1 : ((n : Int) - 1) / 2 = (((n - 1) / 2 : Nat) : Int) := by (first | lia | omega)
      have eq2 : (((n : Int) - 1) / 2).toNat = (n - 1) / 2 := by (first | lia | omega)
      rw [eq2] at hv hg hlt hA₃
      rw [Int.toNat_natCast] at hA₃ N₄
      refine ⟨h₄, tk₄, _, _, (n - 1) / 2, rfl, F₄, N₄, by (first | lia | omega), ?_⟩
      refine ⟨_, _, vn', x, t₄, rfl, hA₃, hvn', by rw [List.length_set]; exact hyl, by (first | lia | omega), rfl, rfl, ?_, rfl, hb_step hyl hn (by (first | lia | omega)) hHB hlt, fun k => (mem_swap hyl hn (by (first | lia | omega)) (by (first | lia | omega)) k).trans (hmem k)⟩
      rw [← eq1]; rfl
    · rename_i hpos' _ _ _ _ _ v hv hg h₄ tk₄ F₄ N₄ hlt
      have eq2 : (((n : Int) - 1) / 2).toNat = (n - 1) / 2 := by (first | lia | omega)
      rw [eq2] at hlt
      have hok := hb_end hyl hn hHB (.inr hlt)
      show wpAny _ _ _ _ _ _
      k_steps
      rename_i h₅ F₅ N₅ hA₅
      rw [Int.toNat_natCast] at hA₅ N₅
      exact fin _ _ _ _ _ F₅ N₅ hA₅ (by rw [List.length_set]; exact hyl) hok hmem
    · rename_i hpos' h₅ F₅ N₅ hA₅
      rw [Int.toNat_natCast] at hA₅ N₅
      exact fin _ _ _ _ _ F₅ N₅ hA₅ (by rw [List.length_set]; exact hyl) (hb_end hyl hn hHB (.inl (by (first | lia | omega)))) hmem
end Mine
end
section
-- S2
open PySem PySem.W PyProof.Rows PySem.Calls PySem.Spec
namespace Mine
theorem lines_S2_1 : True := by
  k_with_none
  k_with "execs nil" => (k_here; first | k_gentoks | (refine SeqQ.next ?_; k_gentoks) | refine wpAny_execs_nil ?_)
  k_with "execs cons" => (k_here; first | k_gentoks | (refine SeqQ.next ?_; k_gentoks) | refine execs_consS ?_)
  k_with "subscriptTail" => (k_here; (with_reducible show wpAny _ _ (subscriptTail _ _ (Value.ref _) (Value.int _ _)) _ _ _); (with_unfolding_all refine' it_sub ?zqk1 ?zqk2 ?zqk3 ?zqk4 ?zqk5 ?zqk6 ?_ ?zqk7; (case zqk1 => k_asm); (case zqk2 => k_mem); (case zqk3 => k_asm); (case zqk4 => (first | lia | omega)); (case zqk5 => (first | lia | omega)); (case zqk6 => (first | lia | omega)); (case zqk7 => with_unfolding_all rfl); k_whole); intro _ _ _)
  k_with "setItem ref int" => (k_here; (with_unfolding_all refine' it_set ?zqk1 ?zqk2 ?zqkU ?zqk3 ?zqkv ?zqk4 ?zqk5 ?zqk6 ?_; (case zqk1 => k_asm); (case zqk2 => k_asm); (case zqkU => k_upd); (case zqk3 => k_asm); (case zqkv => k_asm); (case zqk4 => (first | lia | omega)); (case zqk5 => (first | lia | omega)); (case zqk6 => (first | lia | omega)); k_whole); intro _ _ _ _; (try k_sweep))
  k_with "compareOp Lt" => (k_here; (with_unfolding_all refine' it_lt ?zqk1 ?zqk2 ?zqk3 ?zqk4 ?_; (case zqk1 => (simp only [units_in1, units_deeper, Around.mark_units, units_caller] at *; (first | lia | omega))); (case zqk2 => k_asm); (case zqk3 => k_asm); (case zqk4 => k_asm); k_whole))
  k_with "storeName" => (k_here; (first
    | (with_unfolding_all refine' st_int ?zqF ?zqN ?_ ?zqa ?zqb; (case zqF => k_asm); (case zqN => k_asm); (case zqa => rfl); (case zqb => rfl); k_whole; intro _ _ _ _ _)
    | (with_unfolding_all refine' st_str ?zqF ?zqN ?_ ?zqa ?zqb; (case zqF => k_asm); (case zqN => k_asm); (case zqa => rfl); (case zqb => rfl); k_whole; intro _ _ _ _ _)
    | (with_unfolding_all refine' st_any ?zqF ?zqN ?_ ?zqa ?zqb; (case zqF => k_asm); (case zqN => k_asm); (case zqa => rfl); (case zqb => rfl); k_whole; intro _ _ _ _)); (try k_sweep); (try dsimp only))
  k_with "call builtin:len" => (k_here; (with_unfolding_all refine' it_len ?zqk1 ?zqk2 ?zqk3 ?zqk4 ?_; (case zqk1 => k_asm); (case zqk2 => k_mem); (case zqk3 => k_asm); (case zqk4 => (first | lia | omega)); k_whole); intro _ _; (try dsimp only))
  k_with "WhileStep2" => refine Stopped.intro ?_
  k_with "exec While Compare cons nil" => refine Stopped.intro ?_
  k_with "call ref" => refine Stopped.intro ?_
  trivial

inductive SuJ (g : Heap) (hp : Addr) (cnt n : Nat) (xs : List Int) (k : Nat) (m : Str → Option Value) (news : List (Addr × Obj)) : Prop
  | mk (vs' : List Value) (ys : List Int) (vn : Value) (x : Int) (p : Nat) (t1 t2 t3 t4 : Tok) (pi ci : Int) :
    (news = [(hp, W.listOf vs'.toArray cnt)]) →
    (All2 (IsT3 g) vs' ys) →
    (IsT3 g vn x) →
    (ys.length = n) →
    (p < n) →
    (k = n - p) →
    (pi = p) →
    (ci = 2 * p + 1) →
    (m "heap" = some (.ref hp)) →
    (m "startpos" = some (.int 0 t1)) →
    (m "pos" = some (.int pi t2)) →
    (m "childpos" = some (.int ci t3)) →
    (m "endpos" = some (.int n t4)) →
    (m "newitem" = some vn) →
    (HU n (gD (ys.set p x)) p) →
    (∀ k, k ∈ ys.set p x ↔ k ∈ xs) →
    SuJ g hp cnt n xs k m news
set_option maxHeartbeats 8000000 in
theorem su : ∀ (w : World) (hT : Heap) (A : Around) (s : Shared) (hp : Addr) (vs : List Value) (xs : List Int) (cnt : Nat) (t1 : Tok) (E : Value → Shared → Prop),
    A.depth + 10 < recursionLimit → A.units + 80 < cLine → Ctx w hT s.heap → hT.get? hp = none → s.heap.get? hp = some (W.listOf vs.toArray cnt) → All2 (IsT3 s.heap) vs xs → 0 < xs.length → xs.length < 1000 →
    (∀ i, 0 < i → i < xs.length → (i - 1) / 2 ≠ 0 → gD xs ((i - 1) / 2) ≤ gD xs i) →
    wpAny (model PySem.Challenge.rw_un0012_01.row.prog w) A (call (.ref 42) [.ref hp, .int 0 t1]) (SPost hp cnt xs s) E s := by
  intro w hT A s hp vs xs cnt t1 E hdp hun C hhp hl hxs hpos hlen hB
  obtain ⟨p, loose, mean, mg, mb, T⟩ := C.T
  k_dflt (refine' call_mine [hp] [("pos", .int 0 t1), ("heap", .ref hp)] C.In (T.nolimit.keeps C.st) (by k_is) (by k_is) (by first | lia | omega) (by exact BindsTo.of_eq rfl) (by exact locs rfl) (by exact rfl) ?_ (by exact rfl) (by exact rfl) (by exact rfl) (by decide); k_whole)
  intro g L' h₁ tk₁ hgs hsg F N
  replace N := N [(hp, W.listOf vs.toArray cnt)] (by intro p hp'; rw [List.mem_singleton] at hp'; subst hp'; exact ⟨hl, by simp⟩)
  have gst : hT.StaysIn g := fun b o e => hsg b o (C.st b o e) (fun hm => by rw [List.mem_singleton] at hm; subst hm; rw [hhp] at e; cases e)
  have X' := C.X.keeps gst
  have T' := T.keeps gst
  have hxs' : All2 (IsT3 g) vs xs := hxs.mono fun v k ⟨a, t1, t2, t3, n, x, y, z, e, ha, r⟩ => ⟨a, t1, t2, t3, n, x, y, z, e, hsg a _ ha (by intro hm; rw [List.mem_singleton] at hm; subst hm; rw [hl] at ha; simp [W.listOf] at ha), r⟩
  clear hxs
  try dsimp only
  k_steps
  show wpAny _ _ _ _ _ _
  rename_i t4 _ _ _ t1' vn hvn hgn _ _ t3 tk₁ h₁ F N
  refine While_inv2 (SuJ g hp cnt xs.length xs) F N ?_ ?_ PassesOwn.never (n₀ := xs.length)
  · refine ⟨vs, xs, vn, gD xs 0, 0, _, _, _, _, _, _, rfl, hxs', hvn, rfl, hpos, rfl, rfl, rfl, rfl, rfl, rfl, rfl, rfl, rfl, ?_, ?_⟩
    · rw [set_self hpos]; exact hu_start hB
    · rw [set_self hpos]; exact fun _ => Iff.rfl
  · rintro n m₁ news₁ h₂ tk₂ F₂ N₂ ⟨vs', ys, vn', x, p, t1, t2, t3, t4, pi, ci, rfl, hA, hvn', hyl, hpn, rfl, rfl, rfl, e1, e2, e3, e4, e5, e6, hHU, hmem⟩
    clear F N hvn hgn
    replace F₂ := fr_map [("pos", .int p t2), ("startpos", .int 0 t1), ("heap", .ref hp), ("newitem", vn'), ("childpos", .int (2 * p + 1) t3), ("endpos", .int xs.length t4)] (by intro p hp; simp only [List.mem_cons, List.not_mem_nil, or_false] at hp; rcases hp with rfl | rfl | rfl | rfl | rfl | rfl <;> assumption) F₂
    clear hxs' hB e1 e2 e3 e4 e5 e6
    have q1 : (2 * (p : Int) + 1).toNat = 2 * p + 1 := by (first | lia | omega)
    have q2 : (2 * (p : Int) + 1 + 1).toNat = 2 * p + 2 := by (first | lia | omega)
    k_steps
    · rename_i hlt1 _ _ _ hlt2 _ _ _ _ _ _ hlt3 v hv hg h₃ hA₃ _ t₄ tk₄ h₄ t₅ tk₅ F₄ N₄
      rw [q1] at hv hg hA₃
      rw [q1, q2] at hlt3
      rw [Int.toNat_natCast] at hA₃ N₄
      refine ⟨h₄, tk₅, _, _, xs.length - (2 * p + 1), rfl, F₄, N₄, by (first | lia | omega), ?_⟩
      exact ⟨_, _, vn', x, 2 * p + 1, _, _, _, _, _, _, rfl, hA₃, hvn', by rw [List.length_set]; exact hyl, by (first | lia | omega), rfl, by (first | lia | omega), by (first | lia | omega), rfl, rfl, rfl, rfl, rfl, rfl,
        hu_step hyl (by (first | lia | omega)) (.inl rfl) hHU (by rintro d (rfl | rfl) _ <;> (first | lia | omega)), fun k => (mem_swap hyl hpn (by (first | lia | omega)) (by (first | lia | omega)) k).trans (hmem k)⟩
    · rename_i hlt1 _ _ _ hlt2 _ _ _ _ _ _ hlt3 _ _ _ v hv hg h₃ hA₃ _ t₄ tk₄ h₄ t₅ tk₅ F₄ N₄
      rw [q2] at hv hg hA₃
      rw [q1, q2] at hlt3
      rw [Int.toNat_natCast] at hA₃ N₄
      refine ⟨h₄, tk₅, _, _, xs.length - (2 * p + 2), rfl, F₄, N₄, by (first | lia | omega), ?_⟩
      exact ⟨_, _, vn', x, 2 * p + 2, _, _, _, _, _, _, rfl, hA₃, hvn', by rw [List.length_set]; exact hyl, by (first | lia | omega), rfl, by (first | lia | omega), by (first | lia | omega), rfl, rfl, rfl, rfl, rfl, rfl,
        hu_step hyl (by (first | lia | omega)) (.inr rfl) hHU (by rintro d (rfl | rfl) _ <;> (first | lia | omega)), fun k => (mem_swap hyl hpn (by (first | lia | omega)) (by (first | lia | omega)) k).trans (hmem k)⟩
    · rename_i hlt1 _ _ _ hlt2 v hv hg h₃ hA₃ _ t₄ tk₄ h₄ t₅ tk₅ F₄ N₄
      rw [q1] at hv hg hA₃
      rw [Int.toNat_natCast] at hA₃ N₄
      refine ⟨h₄, tk₅, _, _, xs.length - (2 * p + 1), rfl, F₄, N₄, by (first | lia | omega), ?_⟩
      exact ⟨_, _, vn', x, 2 * p + 1, _, _, _, _, _, _, rfl, hA₃, hvn', by rw [List.length_set]; exact hyl, by (first | lia | omega), rfl, by (first | lia | omega), by (first | lia | omega), rfl, rfl, rfl, rfl, rfl, rfl,
        hu_step hyl (by (first | lia | omega)) (.inl rfl) hHU (by rintro d (rfl | rfl) _ <;> (first | lia | omega)), fun k => (mem_swap hyl hpn (by (first | lia | omega)) (by (first | lia | omega)) k).trans (hmem k)⟩
    · rename_i hge h₃ F₃ N₃ hA₃
      rw [Int.toNat_natCast] at hA₃ N₃
      show wpAny _ _ _ _ _ _
      refine wpAny_mono (sd w hT _ _ hp _ _ cnt p t1 t2 _ (by simp only [depth_deeper]; (first | lia | omega)) (by simp only [units_deeper]; (first | lia | omega)) ⟨C.X, C.T, fun b o e => F₃.keep b o (gst b o e)⟩ hhp (N₃ _ (.head _)).1 (hA₃.mono fun _ _ x => x.lift F₃.keep)
        (by rw [List.length_set, hyl]; exact hpn) (by rw [List.length_set, hyl]; exact hlen) (by rw [List.length_set, hyl]; exact hu_end hHU (by (first | lia | omega)))) (fun r s' hs => ?_) (fun _ _ e => e)
      obtain ⟨rfl, h₅, tk₅, vs₅, ys₅, rfl, st, ho, hA₅, hl₅, hok, hm₅⟩ := hs
      rw [List.length_set, hyl] at hl₅ hok
      refine wpAny_execs_nil ?_
      exact ⟨rfl, h₅, tk₅, vs₅, ys₅, rfl, fun b o hb e => st b o hb (F₃.keep b o (hsg b o e hb)), ho, hA₅, hl₅, hok, fun k => (hm₅ k).trans (hmem k)⟩
end Mine
end
section
-- S3
open PySem PySem.W PyProof.Rows PySem.Calls PySem.Spec
namespace Mine
theorem lines_S3_1 : True := by
  k_with_none
  k_with "execs nil" => (k_here; first | k_gentoks | (refine SeqQ.next ?_; k_gentoks) | refine wpAny_execs_nil ?_)
  k_with "execs cons" => (k_here; first | k_gentoks | (refine SeqQ.next ?_; k_gentoks) | refine execs_consS ?_)
  k_with "subscriptTail" => (k_here; (with_reducible show wpAny _ _ (subscriptTail _ _ (Value.ref _) (Value.int _ _)) _ _ _); (with_unfolding_all refine' it_sub ?zqk1 ?zqk2 ?zqk3 ?zqk4 ?zqk5 ?zqk6 ?_ ?zqk7; (case zqk1 => k_asm); (case zqk2 => k_mem); (case zqk3 => k_asm); (case zqk4 => (first | (first | lia | omega) | (simp only [List.length_append, List.length_singleton, List.length_set]; (first | lia | omega)))); (case zqk5 => (first | (first | lia | omega) | (simp only [List.length_append, List.length_singleton, List.length_set]; (first | lia | omega)))); (case zqk6 => (first | (first | lia | omega) | (simp only [List.length_append, List.length_singleton, List.length_set]; (first | lia | omega)))); (case zqk7 => with_unfolding_all rfl); k_whole); intro _ _ _)
  k_with "setItem ref int" => (k_here; (with_unfolding_all refine' it_set ?zqk1 ?zqk2 ?zqkU ?zqk3 ?zqkv ?zqk4 ?zqk5 ?zqk6 ?_; (case zqk1 => k_asm); (case zqk2 => k_asm); (case zqkU => k_upd); (case zqk3 => k_asm); (case zqkv => k_asm); (case zqk4 => (first | (first | lia | omega) | (simp only [List.length_append, List.length_singleton, List.length_set]; (first | lia | omega)))); (case zqk5 => (first | (first | lia | omega) | (simp only [List.length_append, List.length_singleton, List.length_set]; (first | lia | omega)))); (case zqk6 => (first | (first | lia | omega) | (simp only [List.length_append, List.length_singleton, List.length_set]; (first | lia | omega)))); k_whole); intro _ _ _ _; (try k_sweep))
  k_with "storeName" => (k_here; (first
    | (with_unfolding_all refine' st_int ?zqF ?zqN ?_ ?zqa ?zqb; (case zqF => k_asm); (case zqN => k_asm); (case zqa => rfl); (case zqb => rfl); k_whole; intro _ _ _ _ _)
    | (with_unfolding_all refine' st_str ?zqF ?zqN ?_ ?zqa ?zqb; (case zqF => k_asm); (case zqN => k_asm); (case zqa => rfl); (case zqb => rfl); k_whole; intro _ _ _ _ _)
    | (with_unfolding_all refine' st_any ?zqF ?zqN ?_ ?zqa ?zqb; (case zqF => k_asm); (case zqN => k_asm); (case zqa => rfl); (case zqb => rfl); k_whole; intro _ _ _ _)); (try k_sweep); (try dsimp only))
  k_with "call builtin:len" => (k_here; (with_unfolding_all refine' it_len ?zqk1 ?zqk2 ?zqk3 ?zqk4 ?_; (case zqk1 => k_asm); (case zqk2 => k_mem); (case zqk3 => k_asm); (case zqk4 => (first | (first | lia | omega) | (simp only [List.length_append, List.length_singleton, List.length_set]; (first | lia | omega)))); k_whole); intro _ _; (try dsimp only))
  k_with "call builtin:list.append" => (k_here; (with_unfolding_all refine' it_append ?zqk1 ?zqk2 ?zqkU ?zqk3 ?zqk4 ?zqk5 ?_; (case zqk1 => k_asm); (case zqk2 => k_asm); (case zqkU => k_upd); (case zqk3 => k_asm); (case zqk4 => k_asm); (case zqk5 => (first | (first | lia | omega) | (simp only [List.length_append, List.length_singleton, List.length_set]; (first | lia | omega)))); k_whole); intro _ _ _ _; (try k_sweep))
  k_with "call builtin:list.pop" => (k_here; (with_unfolding_all refine' it_pop ?zqk1 ?zqk2 ?zqkU ?zqk3 ?zqk5 ?_; (case zqk1 => k_asm); (case zqk2 => k_asm); (case zqkU => k_upd); (case zqk3 => k_asm); (case zqk5 => (first | (first | lia | omega) | (simp only [List.length_append, List.length_singleton, List.length_set]; (first | lia | omega)))); k_whole); intro _ _ _; (try k_sweep))
  k_with "truthy ref" => (k_here; (with_unfolding_all refine' it_truthy ?zqk1 ?zqk2 ?zqk3 ?zqk4 ?_; (case zqk1 => k_asm); (case zqk2 => k_mem); (case zqk3 => k_asm); (case zqk4 => (first | (first | lia | omega) | (simp only [List.length_append, List.length_singleton, List.length_set]; (first | lia | omega)))); k_whole); intro _; (try dsimp only))
  k_with "call ref" => refine Stopped.intro ?_
  trivial

inductive PushPostE (hp : Addr) (xs : List Int) (k : Int) (s : Shared) (r : Value) (s' : Shared) : Prop
  | mk : ∀ h' tk' vs' xs' cnt', (s' = { s with heap := h', toks := tk' } ∧ Stays [hp] s.heap h' ∧ h'.get? hp = some (W.listOf vs'.toArray cnt') ∧ All2 (IsT3 h') vs' xs' ∧ xs'.length = xs.length + 1 ∧ HeapOK xs'.length (gD xs') ∧ ∀ j, j ∈ xs' ↔ j ∈ xs ∨ j = k) → PushPostE hp xs k s r s'
noncomputable def PushPost (hp : Addr) (xs : List Int) (k : Int) (s : Shared) (r : Value) (s' : Shared) : Prop := r = .none ∧ PushPostE hp xs k s r s'
inductive PopPost (hp : Addr) (xs : List Int) (s : Shared) (r : Value) (s' : Shared) : Prop
  | mk : ∀ k h' tk' vs' xs' cnt', (IsT3 h' r k ∧ s' = { s with heap := h', toks := tk' } ∧ Stays [hp] s.heap h' ∧ h'.get? hp = some (W.listOf vs'.toArray cnt') ∧ All2 (IsT3 h') vs' xs' ∧ xs.length = xs'.length + 1 ∧ HeapOK xs'.length (gD xs') ∧ (∀ j, j ∈ xs ↔ j = k ∨ j ∈ xs') ∧ ∀ j ∈ xs, k ≤ j) → PopPost hp xs s r s'

theorem All2.unsnoc {α β : Type} {R : α → β → Prop} : ∀ {l : List α} {l' : List β}, All2 R l l' → 0 < l'.length → ∃ l₀ l₀' a b, l = l₀ ++ [a] ∧ l' = l₀' ++ [b] ∧ All2 R l₀ l₀' ∧ R a b
  | _, _, .nil, h => absurd h (Nat.lt_irrefl _)
  | _, _, .cons r .nil, _ => ⟨[], [], _, _, rfl, rfl, .nil, r⟩
  | _, _, .cons r (.cons r' t), _ => by
    obtain ⟨l₀, l₀', a, b, e, e', h, h'⟩ := All2.unsnoc (.cons r' t) (Nat.succ_pos _)
    exact ⟨_ :: l₀, _ :: l₀', a, b, by rw [e]; rfl, by rw [e']; rfl, .cons r h, h'⟩

theorem t3_g {s g : Heap} {hp : Addr} {cls : Value} {v : Value} {k : Int} {vs : Array Value} {n : Nat} (hsg : ∀ (b : Addr) (o : Obj), s.get? b = some o → ¬b ∈ [hp] → g.get? b = some o) (hl : s.get? hp = some (W.listOf vs n)) (x : IsT3 s v k) : IsT3 g v k := by
  obtain ⟨a, t1, t2, t3, n, x, y, z, e, ha, r⟩ := x
  exact ⟨a, t1, t2, t3, n, x, y, z, e, hsg a _ ha (by intro hm; rw [List.mem_singleton] at hm; subst hm; rw [hl] at ha; simp [W.listOf] at ha), r⟩

set_option maxHeartbeats 8000000 in
theorem hpush : ∀ (w : World) (hT : Heap) (A : Around) (s : Shared) (hp : Addr) (vs : List Value) (xs : List Int) (cnt : Nat) (v : Value) (k : Int) (E : Value → Shared → Prop),
    A.depth + 10 < recursionLimit → A.units + 80 < cLine → Ctx w hT s.heap → hT.get? hp = none → s.heap.get? hp = some (W.listOf vs.toArray cnt) → All2 (IsT3 s.heap) vs xs → xs.length < 900 →
    HeapOK xs.length (gD xs) → IsT3 s.heap v k →
    wpAny (model PySem.Challenge.rw_un0012_01.row.prog w) A (call (.ref 21) [.ref hp, v]) (PushPost hp xs k s) E s := by
  intro w hT A s hp vs xs cnt v k E hdp hun C hhp hl hxs hlen hB hv
  obtain ⟨p, loose, mean, mg, mb, T⟩ := C.T
  k_dflt (refine' call_mine [hp] [("item", v), ("heap", .ref hp)] C.In (T.nolimit.keeps C.st) (by k_is) (by k_is) (by first | lia | omega) (by exact BindsTo.of_eq rfl) (by exact locs rfl) (by exact rfl) ?_ (by exact rfl) (by exact rfl) (by exact rfl) (by decide); k_whole)
  intro g L' h₁ tk₁ hgs hsg F N
  replace N := N [(hp, W.listOf vs.toArray cnt)] (by intro p hp'; rw [List.mem_singleton] at hp'; subst hp'; exact ⟨hl, by simp⟩)
  have gst : hT.StaysIn g := fun b o e => hsg b o (C.st b o e) (fun hm => by rw [List.mem_singleton] at hm; subst hm; rw [hhp] at e; cases e)
  have X' := C.X.keeps gst
  have T' := T.keeps gst
  have hxs' : All2 (IsT3 g) vs xs := hxs.mono fun v k x => t3_g (cls := .none) hsg hl x
  have hv' : IsT3 g v k := t3_g (cls := .none) hsg hl hv
  clear hxs hv
  try dsimp only
  k_steps
  show wpAny _ _ _ _ _ _
  rename_i h₃ F₃ N₃ hA₃ _ _
  have e1 : (((xs ++ [k]).length : Nat) : Int) - 1 = (xs.length : Int) := by rw [List.length_append, List.length_singleton]; (first | lia | omega)
  rw [e1]
  refine wpAny_mono (sd w hT _ _ hp _ _ (cnt + 1) xs.length _ _ _ (by simp only [depth_deeper]; (first | lia | omega)) (by simp only [units_deeper]; (first | lia | omega)) ⟨C.X, C.T, fun b o e => F₃.keep b o (gst b o e)⟩ hhp (N₃ _ (.head _)).1 (hA₃.mono fun _ _ x => x.lift F₃.keep)
        (by rw [List.length_append, List.length_singleton]; (first | lia | omega)) (by rw [List.length_append, List.length_singleton]; (first | lia | omega)) (hb_push hB)) (fun r s' hs => ?_) (fun _ _ e => e)
  obtain ⟨rfl, h₅, tk₅, vs₅, ys₅, rfl, st, ho, hA₅, hl₅, hok, hm₅⟩ := hs
  refine wpAny_execs_nil ?_
  refine ⟨rfl, h₅, tk₅, vs₅, ys₅, _, rfl, fun b o hb e => st b o hb (F₃.keep b o (hsg b o e hb)), ho, hA₅, by rw [hl₅, List.length_append, List.length_singleton], by rw [hl₅]; exact hok, fun j => (hm₅ j).trans ?_⟩
  rw [List.mem_append, List.mem_singleton]

set_option maxHeartbeats 8000000 in
theorem hpop : ∀ (w : World) (hT : Heap) (A : Around) (s : Shared) (hp : Addr) (vs : List Value) (xs : List Int) (cnt : Nat) (E : Value → Shared → Prop),
    A.depth + 15 < recursionLimit → A.units + 120 < cLine → Ctx w hT s.heap → hT.get? hp = none → s.heap.get? hp = some (W.listOf vs.toArray cnt) → All2 (IsT3 s.heap) vs xs → xs.length < 900 → 0 < xs.length →
    HeapOK xs.length (gD xs) →
    wpAny (model PySem.Challenge.rw_un0012_01.row.prog w) A (call (.ref 28) [.ref hp]) (PopPost hp xs s) E s := by
  intro w hT A s hp vs xs cnt E hdp hun C hhp hl hxs hlen hpos hB
  obtain ⟨p, loose, mean, mg, mb, T⟩ := C.T
  k_dflt (refine' call_mine [hp] [("heap", .ref hp)] C.In (T.nolimit.keeps C.st) (by k_is) (by k_is) (by first | lia | omega) (by exact BindsTo.of_eq rfl) (by exact locs rfl) (by exact rfl) ?_ (by exact rfl) (by exact rfl) (by exact rfl) (by decide); k_whole)
  intro g L' h₁ tk₁ hgs hsg F N
  replace N := N [(hp, W.listOf vs.toArray cnt)] (by intro p hp'; rw [List.mem_singleton] at hp'; subst hp'; exact ⟨hl, by simp⟩)
  have gst : hT.StaysIn g := fun b o e => hsg b o (C.st b o e) (fun hm => by rw [List.mem_singleton] at hm; subst hm; rw [hhp] at e; cases e)
  have X' := C.X.keeps gst
  have T' := T.keeps gst
  have hxs' : All2 (IsT3 g) vs xs := hxs.mono fun v k x => t3_g (cls := .none) hsg hl x
  obtain ⟨vs₀, xs₀, v, k, rfl, rfl, hxs₀, hv⟩ : ∃ vs₀ xs₀ v k, vs = vs₀ ++ [v] ∧ xs = xs₀ ++ [k] ∧ All2 (IsT3 g) vs₀ xs₀ ∧ IsT3 g v k := All2.unsnoc hxs' hpos
  clear hxs hxs'
  rw [List.length_append, List.length_singleton] at hlen
  try dsimp only
  k_steps
  · show wpAny _ _ _ _ _ _
    rename_i hne v₀ hv₀ hg₀ _ _ h₃ F₃ N₃ hA₃
    refine wpAny_mono (su w hT _ _ hp _ _ (cnt + 1) _ _ (by simp only [depth_deeper]; (first | lia | omega)) (by simp only [units_deeper]; (first | lia | omega)) ⟨C.X, C.T, fun b o e => F₃.keep b o (gst b o e)⟩ hhp (N₃ _ (.head _)).1 (hA₃.mono fun _ _ x => x.lift F₃.keep)
        (by rw [List.length_set]; (first | lia | omega)) (by rw [List.length_set]; (first | lia | omega)) (hu_pop hB hne)) (fun r s' hs => ?_) (fun _ _ e => e)
    obtain ⟨rfl, h₅, tk₅, vs₅, ys₅, rfl, st, ho, hA₅, hl₅, hok, hm₅⟩ := hs
    obtain ⟨F₅, N₅⟩ := back_call F₃ N₃ st ho
    try dsimp only
    k_steps
    rw [show (Int.toNat 0) = 0 from rfl] at *
    rw [List.length_set] at hl₅ hok
    refine ⟨gD xs₀ 0, h₅, _, vs₅, ys₅, _, hv₀.lift F₅.keep, rfl, fun b o hb e => F₅.keep b o (hsg b o e hb), ho, hA₅, by rw [hl₅, List.length_append, List.length_singleton], by rw [hl₅]; exact hok, fun j => ?_, min_pop hB hne⟩
    rw [mem_pop hne j, hm₅ j]
  · rename_i h₃ _ F₃ N₃ _ hne
    have e : xs₀ = [] := List.eq_nil_of_length_eq_zero (by (first | lia | omega))
    subst e
    cases hxs₀
    refine ⟨k, h₃, _, [], [], _, hv.lift F₃.keep, rfl, fun b o hb e => F₃.keep b o (hsg b o e hb), (N₃ _ (.head _)).1, .nil, rfl, fun i h0 h1 => absurd h1 (Nat.not_lt_zero _), fun j => ?_, fun j hj => ?_⟩
    · simp
    · rw [List.nil_append, List.mem_singleton] at hj; (first | lia | omega)
end Mine
end
section
-- B1C
open PySem PySem.W PyProof.Rows PySem.Calls PySem.Spec
namespace Mine
theorem call_mineC {prog : Program} {w : World} {A : Around} {s : Shared} {K : Frag}
    {R E : Value → Shared → Prop} {name qual : Str} {params : Arguments} {body : List Stmt} {scope : Scope} {dV kV doc pm cdv ct oc : Value} {an od : Option Addr} {osl : Array (Option Value)} {f : Addr} {args : List Value} {binds : List (Str × Value)}
    (muts : List Addr) (X : K.In s.heap) (hlim : s.heap.NoLimit)
    (ho : K.lookup f = some ⟨oc, od, .func (fnOf name qual params body scope dV kV doc pm an cdv ct), osl⟩) (hcd : codeIn K cdv qual = true) (hroom : A.depth < recursionLimit)
    (hbind : BindsTo s (fnOf name qual params body scope dV kV doc pm an cdv ct) ⟨args, []⟩ binds)
    (hkind : (binds.all fun y => scope.names.lookup y.1 == some .local || scope.names.lookup y.1 == some .cell) = true)
    (hnd : ((cellsFrom 0 scope.names []).map (·.1)).Nodup)
    (h : ∀ g L' h₁ tk cells, (∀ b o, g.get? b = some o → s.heap.get? b = some o) → (∀ b o, s.heap.get? b = some o → b ∉ muts → g.get? b = some o) →
      Fr g L' h₁ (bindL (envOfC qual scope L' f cdv).kindOf binds fun _ => none) →
      CellsAre (bindC (envOfC qual scope L' f cdv).kindOf binds fun _ => none) (cellsFrom (L' + 1) scope.names []) cells →
      (∀ news : List (Addr × Obj), (∀ p ∈ news, s.heap.get? p.1 = some p.2 ∧ p.1 ∈ muts) → News g L' h₁ (cells ++ news)) →
      (∀ b o, s.heap.get? b = some o → b < L') →
      wpAny (model prog w) (A.deeper (envOfC qual scope L' f cdv)) (execs body (envOfC qual scope L' f cdv))
        (fun fl s' => R (match fl with | .ret v => v | _ => .none) s') (fun _ _ => False)
        { s with heap := h₁, toks := tk })
    (hco : scope.isCoroutine = false) (hgen : scope.isGenerator = false) (hk : scope.kind = .function) : wpAny (model prog w) A (call (.ref f) args) R E s := by
  refine wpAny_call (codeAny_call_function hroom (X f _ ho) rfl hco hgen rfl (codeRec_of X hcd) (hbind _ _ _ _ (wpAny_newFunctionEnv_cells hk (kindsX hkind _) ?_)))
  rintro _ rfl _ made
  obtain ⟨h₁, tk, rfl, _⟩ := made.done
  have up : s.heap.StaysIn h₁ := made.toInCall.keep
  -- the cells lie above all that the caller has
  have nd : ((cellsFrom (s.heap.objs.size + 1) scope.names []).map (·.1)).Nodup := by
    rw [← cellsFrom_names scope.names 0 (s.heap.objs.size + 1) [] [] rfl]; exact hnd
  obtain ⟨cells, new, are⟩ := Cl.news (h₀ := hideAll s.heap muts) (L := s.heap.objs.size) (Nat.le_of_eq (hideAll_size muts s.heap))
    fun n c hc => And.intro (made.cell n c (lookup_of_mem_nodup nd hc)) (made.above n c hc)
  refine And.intro (hlim.keeps up) (codeAny_func (wpAny_mono (h _ _ h₁ tk cells (fun _ _ => of_hideAll _) (fun _ _ e hb => hideAll_get _ e hb) (ground_fr made.toInCall.ns up) are ?_ fun _ _ => Heap.lt_size) (fun _ _ r => r) fun _ _ => False.elim))
  exact fun _ hn => new.append (ground_news up hn)
end Mine
end
section
-- L1
open PySem PySem.W PyProof.Rows PySem.Calls PySem.Spec
namespace Mine
/-- an iterator at I over which a statement's turns are known (KTurns), that is wholly there and that hands out itself -/
structure It (prog : Program) (w : World) (A : Around) (target : Expr) (I : Addr) (fp wr : List Addr) (n : Nat) (P : Nat → Value → Heap → Prop) (St : Nat → Heap → Prop) : Prop where
  turns : ∃ Md, KTurns prog w A target I fp wr n P Md St
  live : ∀ i h, St i h → ∀ b ∈ fp, ∃ o, h.get? b = some o
  self : ∀ i (s : Shared) (Q E : Value → Shared → Prop), St i s.heap → Q (.ref I) s → wpAny (model prog w) A (pyIter (.ref I)) Q E s

section
variable {prog : Program} {w : World} {A : Around} {target : Expr} {I : Addr} {fp wr : List Addr} {n : Nat} {P : Nat → Value → Heap → Prop} {St : Nat → Heap → Prop}
theorem It.sub (W : It prog w A target I fp wr n P St) : ∀ b ∈ wr, b ∈ fp := let ⟨_, K⟩ := W.turns; K.sub
theorem It.frame (W : It prog w A target I fp wr n P St) : ∀ i h h', St i h → (∀ b ∈ fp, ∀ o, h.get? b = some o → h'.get? b = some o) → St i h' := let ⟨_, K⟩ := W.turns; K.frame
theorem It.done (W : It prog w A target I fp wr n P St) (s : Shared) (Q : Option Value → Shared → Prop) (E : Value → Shared → Prop) (st : St n s.heap)
    (h : ∀ h' tk, (∀ b o, b ∉ wr → s.heap.get? b = some o → h'.get? b = some o) → Q none { s with heap := h', toks := tk }) : wpAny (model prog w) A (pyNext (.ref I)) Q E s :=
  let ⟨_, K⟩ := W.turns; K.done s Q E st h
/-- one step: what the target is handed once the iterator's own tuple is let go -/
theorem It.item (W : It prog w A target I fp wr n P St) (i : Nat) (s : Shared) (Q E : Value → Shared → Prop) (hi : i < n) (st : St i s.heap)
    (h : ∀ v h' tk, P i v h' → St (i + 1) h' → (∀ b o, b ∉ wr → s.heap.get? b = some o → h'.get? b = some o) → Q v { s with heap := h', toks := tk }) :
    wpAny (model prog w) A (pyNext (.ref I)) (fun r s₁ => ∃ v, r = some v ∧ wpAny (model prog w) A (letOwnedTupleGo target (.ref I) v) (fun _ s₂ => Q v s₂) E s₁) E s := by
  obtain ⟨_, K⟩ := W.turns
  refine K.item i s _ E hi st fun v h₁ tk mid k₁ => ⟨v, rfl, K.go i v _ _ E mid ?_⟩
  exact fun h₂ p st₂ k₂ => h v h₂ tk p st₂ fun b o hb e => k₂ b o hb (k₁ b o hb e)
end

/-- the same iterator, said otherwise -/
theorem It.to {prog : Program} {w : World} {A : Around} {target : Expr} {I : Addr} {fp wr : List Addr} {n : Nat} {P P' : Nat → Value → Heap → Prop} {St : Nat → Heap → Prop} (W : It prog w A target I fp wr n P St) (hP : ∀ i v h, P i v h → P' i v h) :
    It prog w A target I fp wr n P' St :=
  let ⟨Md, K⟩ := W.turns
  ⟨⟨Md, { K with go := fun i v s Q E mid h => K.go i v s Q E mid fun h' p => h h' (hP i v h' p) }⟩, W.live, W.self⟩
theorem It.ofWalks {prog : Program} {w : World} {A : Around} {x : Str} {px : Pos} {I : Addr} {fp wr : List Addr} {n : Nat} {P : Nat → Value → Prop} {St : Nat → Heap → Prop} (W : Walks prog w A I fp wr n P St) (live : ∀ i h, St i h → ∀ b ∈ fp, ∃ o, h.get? b = some o) :
    It prog w A (.Name x px) I fp wr n (fun i v _ => P i v) St :=
  ⟨⟨_, KTurns.ofWalks W fun _ _ _ _ _ _ q => wpAny_pure q⟩, live, W.self⟩
theorem It.ofWalksU {prog : Program} {w : World} {A : Around} {elts : List Expr} {k : Nat} {pos : Pos} {I : Addr} {fp wr : List Addr} {n : Nat} {Pt : Nat → Array Value → Prop} {St : Nat → Heap → Prop} {Mid : Nat → Addr → Heap → Prop}
    (W : WalksU prog w A I fp wr n Pt St Mid) (live : ∀ i h, St i h → ∀ b ∈ fp, ∃ o, h.get? b = some o) :
    It prog w A (.Tuple elts k pos) I fp wr n (fun i v h => ∃ T vals, v = .ref T ∧ h.IsTuple T vals ∧ Pt i vals) St :=
  (It.mk ⟨_, KTurns.ofWalksU W⟩ live W.self).to fun _ _ _ ⟨T, vals, e, p, t⟩ => ⟨T, vals, e, t, p⟩

/-- the objects of the iterator that the ground does not hold -/
noncomputable def exList (g h : Heap) (fp : List Addr) : List (Addr × Obj) := fp.filterMap fun b => match g.get? b, h.get? b with
  | none, some o => some (b, o)
  | _, _ => none
theorem exList_mem {g h : Heap} {fp : List Addr} {p : Addr × Obj} : p ∈ exList g h fp ↔ p.1 ∈ fp ∧ g.get? p.1 = none ∧ h.get? p.1 = some p.2 := by
  unfold exList
  rw [List.mem_filterMap]
  constructor
  · rintro ⟨b, hb, e⟩
    cases q : g.get? b with
    | some o => rw [q] at e; simp at e
    | none =>
      rw [q] at e
      cases q' : h.get? b with
      | none => rw [q'] at e; simp at e
      | some o => rw [q'] at e; simp at e; subst e; exact ⟨hb, q, q'⟩
  · rintro ⟨h1, h2, h3⟩
    exact ⟨p.1, h1, by rw [h2, h3]⟩

inductive LoopMid (g : Heap) (L : Addr) (fp : List Addr) (s : Shared) (J : (Str → Option Value) → List (Addr × Obj) → Prop) (extra : List (Addr × Obj)) (s' : Shared) : Prop
  | mk (h' : Heap) (tk : Nat) (m' : Str → Option Value) (news' : List (Addr × Obj)) : s' = { s with heap := h', toks := tk } → Fr g L h' m' → News g L h' (news' ++ extra) → (∀ q ∈ news', q.1 ∉ fp) → J m' news' → LoopMid g L fp s J extra s'
inductive LoopI (g : Heap) (L : Addr) (fp : List Addr) (s : Shared) (n : Nat) (St : Nat → Heap → Prop) (J : Nat → (Str → Option Value) → List (Addr × Obj) → Prop) (k : Nat) (s' : Shared) : Prop
  | mk (i : Nat) (h : Heap) (tk : Nat) (m₁ : Str → Option Value) (news₁ : List (Addr × Obj)) : s' = { s with heap := h, toks := tk } → k = n - i → i ≤ n → St i h → Fr g L h m₁ → News g L h news₁ → (∀ q ∈ news₁, q.1 ∉ fp) → J i m₁ news₁ → LoopI g L fp s n St J k s'
noncomputable def ForPost (g : Heap) (L : Addr) (fp : List Addr) (s : Shared) (J : (Str → Option Value) → List (Addr × Obj) → Prop) (extra : List (Addr × Obj)) (Q : Flow → Shared → Prop) (f : Flow) (s' : Shared) : Prop :=
  match f with
  | .next | .cont => LoopMid g L fp s J extra s'
  | .brk => Q .next s'
  | .ret v => Q (.ret v) s'

section
variable {prog : Program} {w : World} {A : Around} {E : Value → Shared → Prop} {s : Shared} {env : Env} {g : Heap}

theorem for_base {H : Heap} {tH : Nat} {L : Addr} {fp : List Addr} {J : (Str → Option Value) → List (Addr × Obj) → Prop} {extra : List (Addr × Obj)} {Q : Flow → Shared → Prop} {c₁ : Sem Unit} {c₂ : Sem Flow} {S : Shared}
    (x : wpAny (model prog w) A c₁ (fun _ s₂ => wpAny (model prog w) A c₂ (ForPost g L fp s J extra Q) (fun _ _ => False) s₂) (fun _ _ => False) S) :
    wpAny (model prog w) A c₁ (fun _ s₂ => wpAny (model prog w) A c₂ (ForPost g L fp { s with heap := H, toks := tH } J extra Q) (fun _ _ => False) s₂) (fun _ _ => False) S := by
  refine wpAny_mono x (fun _ s₃ h₃ => wpAny_mono h₃ (fun f s₄ h₄ => ?_) fun _ _ e => e) fun _ _ e => e
  have k : ∀ {s' : Shared}, LoopMid g L fp s J extra s' → LoopMid g L fp { s with heap := H, toks := tH } J extra s' := fun ⟨h', tk, m', news', e, a, b, c, d⟩ => ⟨h', tk, m', news', e, a, b, c, d⟩
  cases f with
  | next => exact k h₄
  | cont => exact k h₄
  | brk => exact h₄
  | ret v => exact h₄
theorem my_forLoopT {target : Expr} {body orelse : List Stmt} {I : Addr} {fp wr : List Addr} {n : Nat} {P : Nat → Value → Heap → Prop} {St : Nat → Heap → Prop} {Q : Flow → Shared → Prop}
    {m : Str → Option Value} {news : List (Addr × Obj)} (J : Nat → (Str → Option Value) → List (Addr × Obj) → Prop)
    (W : It prog w A target I fp wr n P St) (hst : St 0 s.heap) (F : Fr g env.locals s.heap m) (N : News g env.locals s.heap news) (hL : env.locals ∉ fp) (hwr : ∀ b ∈ wr, g.get? b = none)
    (hn : ∀ q ∈ news, q.1 ∉ fp) (hJ : J 0 m news)
    (turn : ∀ i v h tk m₁ news₁ extra, i < n → P i v h → J i m₁ news₁ → Fr g env.locals h m₁ → News g env.locals h (news₁ ++ extra) → (∀ p ∈ extra, p.1 ∈ fp) → (∀ q ∈ news₁, q.1 ∉ fp) → St (i + 1) h → (∀ b ∈ fp, ∀ o, h.get? b = some o → g.get? b = some o ∨ (b, o) ∈ extra) →
      wpAny (model prog w) A (assign target env v) (fun _ s₂ => wpAny (model prog w) A (execs body env) (ForPost g env.locals fp s (J (i + 1)) extra Q) (fun _ _ => False) s₂) (fun _ _ => False) { s with heap := h, toks := tk })
    (done : ∀ h tk m₁ news₁, (∃ h₀, St n h₀ ∧ ∀ b o, b ∉ wr → h₀.get? b = some o → h.get? b = some o) → J n m₁ news₁ → Fr g env.locals h m₁ → News g env.locals h news₁ → wpAny (model prog w) A (execs orelse env) Q (fun _ _ => False) { s with heap := h, toks := tk }) :
    codeAny (model prog w) A (.forLoop target (.ref I) body orelse env) (fun r s' => match r with | .ok f => Q f s' | .error e => cameBackBy (model prog w) A env E e s') s := by
  refine codeAny_forLoop_any (LoopI g env.locals fp s n St J)
    ?_ n ⟨0, s.heap, s.toks, m, news, rfl, rfl, Nat.zero_le _, hst, F, N, hn, hJ⟩
  rintro k s' ⟨i, h, tk, m₁, news₁, rfl, rfl, hi, st, F₁, N₁, hn₁, hJ₁⟩
  by_cases hlt : i < n
  · refine wpAny_mono (W.item i _ ?Q ?E hlt st ?k) ?m fun _ _ e => ?e
    case m => rintro r s₁ ⟨v, rfl, hv⟩; exact hv
    case e => exact e
    intro v h' tk' hP st' hk
    have hLw : env.locals ∉ wr := fun q => hL (W.sub _ q)
    have F₂ : Fr g env.locals h' m₁ := by
      obtain ⟨oL, es, ep, hL', r⟩ := F₁.ns
      exact ⟨⟨oL, es, ep, hk _ _ hLw hL', r⟩, fun b o e => hk b o (fun q => by rw [hwr b q] at e; cases e) (F₁.keep b o e), F₁.above⟩
    have hnw : ∀ q ∈ news₁, q.1 ∉ wr := fun q hq hw => hn₁ q hq (W.sub _ hw)
    have live := W.live _ _ st'
    have N₂ : News g env.locals h' (news₁ ++ exList g h' fp) := fun p hp => by
      rcases List.mem_append.mp hp with hp | hp
      · exact ⟨hk _ _ (hnw p hp) (N₁ p hp).1, (N₁ p hp).2⟩
      · obtain ⟨a, b, c⟩ := exList_mem.mp hp
        exact ⟨c, fun q => hL (q ▸ a), b⟩
    refine wpAny_mono (turn i v h' tk' m₁ news₁ (exList g h' fp) hlt hP hJ₁ F₂ N₂ (fun p hp => (exList_mem.mp hp).1) hn₁ st' (fun b hb o e => by
        cases q : g.get? b with
        | some o' =>
          have := F₂.keep b o' q
          rw [e] at this; cases this; exact .inl rfl
        | none => exact .inr (exList_mem.mpr ⟨hb, q, e⟩))) (fun _ s₃ h₃ => wpAny_mono h₃ (fun f s₄ h₄ => ?_) fun _ _ e => e.elim) fun _ _ e => e.elim
    have fin : LoopMid g env.locals fp s (J (i + 1)) (exList g h' fp) s₄ → ∃ m, m < n - i ∧ LoopI g env.locals fp s n St J m s₄ := by
      rintro ⟨h'', tk'', m', news', rfl, F', N', hn', hJ'⟩
      have keepfp : ∀ b ∈ fp, ∀ o, h'.get? b = some o → h''.get? b = some o := fun b hb o e => by
        cases q : g.get? b with
        | some o' =>
          have e1 := F₂.keep b o' q
          rw [e] at e1; cases e1
          exact F'.keep b o q
        | none => exact (N' (b, o) (List.mem_append_right _ (exList_mem.mpr ⟨hb, q, e⟩))).1
      refine ⟨n - (i + 1), by (first | lia | omega), i + 1, h'', tk'', m', news', rfl, rfl, hlt, W.frame _ _ _ st' keepfp, F', fun p hp => N' p (List.mem_append_left _ hp), hn', hJ'⟩
    cases f with
    | next => exact fin h₄
    | cont => exact fin h₄
    | brk => exact h₄
    | ret v => exact h₄
  · have hin : i = n := by (first | lia | omega)
    subst hin
    have hLw : env.locals ∉ wr := fun q => hL (W.sub _ q)
    refine W.done _ _ _ st fun h' tk' hk => ?_
    refine wpAny_mono (done h' tk' m₁ news₁ ⟨h, st, hk⟩ hJ₁ ?_ ?_) (fun _ _ x => x) fun _ _ e => e.elim
    · obtain ⟨oL, es, ep, hL', r⟩ := F₁.ns
      exact ⟨⟨oL, es, ep, hk _ _ hLw hL', r⟩, fun b o e => hk b o (fun q => by rw [hwr b q] at e; cases e) (F₁.keep b o e), F₁.above⟩
    · exact fun p hp => ⟨hk _ _ (fun hw => hn₁ p hp (W.sub _ hw)) (N₁ p hp).1, (N₁ p hp).2⟩
theorem my_forLoop {target : Expr} {body orelse : List Stmt} {I : Addr} {fp wr : List Addr} {n : Nat} {P : Nat → Value → Heap → Prop} {St : Nat → Heap → Prop} {Q : Flow → Shared → Prop}
    {m : Str → Option Value} {news : List (Addr × Obj)} (J : Nat → (Str → Option Value) → List (Addr × Obj) → Prop)
    (W : It prog w A target I fp wr n P St) (hst : St 0 s.heap) (F : Fr g env.locals s.heap m) (N : News g env.locals s.heap news) (hL : env.locals ∉ fp) (hwr : ∀ b ∈ wr, g.get? b = none)
    (hn : ∀ q ∈ news, q.1 ∉ fp) (hJ : J 0 m news)
    (turn : ∀ i v h tk m₁ news₁ extra, i < n → P i v h → J i m₁ news₁ → Fr g env.locals h m₁ → News g env.locals h (news₁ ++ extra) → (∀ p ∈ extra, p.1 ∈ fp) → (∀ q ∈ news₁, q.1 ∉ fp) → (∀ b ∈ fp, ∃ o, h.get? b = some o) →
      wpAny (model prog w) A (assign target env v) (fun _ s₂ => wpAny (model prog w) A (execs body env) (ForPost g env.locals fp s (J (i + 1)) extra Q) (fun _ _ => False) s₂) (fun _ _ => False) { s with heap := h, toks := tk })
    (done : ∀ h tk m₁ news₁, J n m₁ news₁ → Fr g env.locals h m₁ → News g env.locals h news₁ → wpAny (model prog w) A (execs orelse env) Q (fun _ _ => False) { s with heap := h, toks := tk }) :
    codeAny (model prog w) A (.forLoop target (.ref I) body orelse env) (fun r s' => match r with | .ok f => Q f s' | .error e => cameBackBy (model prog w) A env E e s') s :=
  my_forLoopT J W hst F N hL hwr hn hJ (fun i v h tk m₁ news₁ extra hi hP hJ F N hex hn st _ => turn i v h tk m₁ news₁ extra hi hP hJ F N hex hn fun b hb => W.live _ _ st b hb) fun h tk m₁ news₁ _ => done h tk m₁ news₁
end
end Mine
end
section
-- L2
open PySem PySem.W PyProof.Rows PySem.Calls PySem.Spec
namespace Mine
/-- the tests of a comprehension's clause -/
noncomputable def testsOf (ifs : List Expr) (env : Env) : Sem Bool := forIn ifs true fun c r => if r = true then do let ok ← isTrue c env (eval c env); pure (ForInStep.yield ok) else pure (ForInStep.yield r)

section
variable {prog : Program} {w : World} {A : Around} {E : Value → Shared → Prop} {s : Shared} {env : Env} {g : Heap}

/-- what follows on a part that does not raise -/
theorem after {α β : Type} {M : Model} {c : Sem α} {f : α → Sem β} {P : α → Shared → Prop} {Q : β → Shared → Prop} {E : Value → Shared → Prop} {s : Shared} (h : wpAny M A c P (fun _ _ => False) s)
    (k : ∀ v s', P v s' → wpAny M A (f v) Q E s') : wpAny M A (c >>= f) Q E s := wpAny_bind (wpAny_mono h k fun _ _ => False.elim)
theorem my_compLoop0 {elt target iter : Expr} {ifs : List Expr} {scope : Scope} {pos : Pos} {it acc : Value} {env : Env} {R : Result → Shared → Prop} (I : Nat → Shared → Prop)
    (turn : ∀ n s, I n s → wpAny (model prog w) A (pyNext it) (fun r s₁ => match r with
      | none => R (.ok .next) s₁
      | some v => wpAny (model prog w) A (letOwnedTupleGo target it v) (fun _ s₁' => wpAny (model prog w) A (assign target env v) (fun _ s₂ =>
          wpAny (model prog w) A (testsOf ifs env) (fun ok s₃ =>
            if ok = true then wpAny (model prog w) A (eval elt env) (fun x s₄ =>
              wpAny (model prog w) A (call (.builtin "list.append") [acc, x]) (fun _ s₅ => ∃ m, m < n ∧ I m s₅) (fun _ _ => False) s₄) (fun _ _ => False) s₃
            else ∃ m, m < n ∧ I m s₃) (fun _ _ => False) s₂) (fun _ _ => False) s₁') (fun _ _ => False) s₁) (fun _ _ => False) s)
    (n : Nat) (h : I n s) : codeAny (model prog w) A (.compLoop (.ListComp elt [⟨target, iter, ifs, 0⟩] scope pos) 0 it acc env) R s :=
  codeAny_loop rfl I (fun n s hI => wpAny_noted (by
    rw [compTurn_list]
    refine wpAny_bind (wpAny_standAt (after (turn n s hI) ?_))
    rintro (_ | v) s₁ h₁
    · exact wpAny_pure h₁
    refine after h₁ fun _ _ h₁ => after h₁ fun _ _ h₁ => after h₁ ?_
    rintro (_ | _) s₂ h₂
    · exact wpAny_pure ⟨rfl, h₂⟩
    · exact wpAny_bind (after h₂ fun _ _ h₂ => after h₂ fun _ _ h₂ => wpAny_pure (wpAny_pure ⟨rfl, h₂⟩)))) n h

/-- all objects of h but the ground's and these -/
noncomputable def others (g h : Heap) (ex : List Addr) : List (Addr × Obj) := exList g h ((List.range h.objs.size).filter fun b => !ex.contains b)
theorem others_mem {g h : Heap} {ex : List Addr} {p : Addr × Obj} : p ∈ others g h ex ↔ p.1 ∉ ex ∧ g.get? p.1 = none ∧ h.get? p.1 = some p.2 := by
  unfold others
  rw [exList_mem, List.mem_filter, List.mem_range]
  constructor
  · rintro ⟨⟨_, b⟩, c, d⟩
    exact ⟨by simpa using b, c, d⟩
  · rintro ⟨b, c, d⟩
    exact ⟨⟨Heap.lt_size d, by simpa using b⟩, c, d⟩

/-- the end of a part of a turn -/
inductive CEnd (g : Heap) (C : Addr) (ocs : List (Str × Addr)) (s : Shared) (h : Heap) (extra : List (Addr × Obj)) (Φ : List (Addr × Obj) → Prop) (s' : Shared) : Prop
  | mk (h' : Heap) (tk' : Nat) (m' cm' : Str → Option Value) (cells' objs : List (Addr × Obj)) : s' = { s with heap := h', toks := tk' } → Fr g C h' m' → CellsAre cm' ocs cells' → News g C h' (cells' ++ extra) → Φ objs → (∀ p ∈ objs, h'.get? p.1 = some p.2 ∧ h.get? p.1 = none) → CEnd g C ocs s h extra Φ s'

theorem CEnd.heap {g h H : Heap} {tH : Nat} {C : Addr} {ocs : List (Str × Addr)} {s s' : Shared} {extra : List (Addr × Obj)} {Φ : List (Addr × Obj) → Prop} : CEnd g C ocs s h extra Φ s' → CEnd g C ocs { s with heap := H, toks := tH } h extra Φ s'
  | ⟨h', tk', m', cm', cells', objs, e, a, b, c, d, f⟩ => ⟨h', tk', m', cm', cells', objs, e, a, b, c, d, f⟩

theorem CellsAre.adr {cm : Str → Option Value} : ∀ {cs : List (Str × Addr)} {cells : List (Addr × Obj)}, CellsAre cm cs cells → cells.map (·.1) = cs.map (·.2)
  | _, _, .nil => rfl
  | _, _, .cons _ t => by rw [List.map_cons, List.map_cons, CellsAre.adr t]

end
end Mine
end
section
-- L3
open PySem PySem.W PyProof.Rows PySem.Calls PySem.Spec
namespace Mine
theorem cellsFrom_append : ∀ (names : List (Str × NameKind)) (n : Nat) (acc : List (Str × Addr)), cellsFrom n names acc = cellsFrom n names [] ++ acc
  | [], _, acc => rfl
  | (name, kind) :: r, n, acc => by
    unfold cellsFrom
    split
    · rw [cellsFrom_append r (n + 1) ((name, n) :: acc), cellsFrom_append r (n + 1) [(name, n)], List.append_assoc]; rfl
    · exact cellsFrom_append r n acc

section
variable {prog : Program} {w : World} {A : Around} {E : Value → Shared → Prop} {s : Shared} {env : Env}

theorem newEnv_comp {scope : Scope} {cl : List (Str × Addr)} {Q : Env → Shared → Prop}
    (h : Q { scope := scope, locals := s.heap.objs.size, globals := env.globals, cells := cellsFrom (s.heap.objs.size + 1) scope.names cl, qual := env.qual, func := none, code := env.code, frame := env.frame, builtins := env.builtins }
      { s with heap := pushCells (s.heap.push { cls := .type "dict", data := .dict #[] }) scope.names }) :
    wpAny (model prog w) A (newFunctionEnv scope env.globals cl [] env.qual none .none (some env)) Q E s := by
  have one : (s.heap.push { cls := .type "dict", data := .dict #[] }).objs.size = s.heap.objs.size + 1 := Heap.size_push s.heap _
  rw [← one] at h
  unfold newFunctionEnv
  refine wpAny_bind (wpAny_alloc (wpAny_bind (wpAny_layCells _ (fun _ kind _ => ?_) scope.names cl _ _ (wpAny_bind (wpAny_pure (wpAny_pure h))))))
  cases kind <;> rfl

end
end Mine
end
section
-- L4
open PySem PySem.W PyProof.Rows PySem.Calls PySem.Spec
namespace Mine
noncomputable def plainTarget : Expr → Bool
  | .Name .. => true
  | .Tuple .. => true
  | _ => false

section
variable {prog : Program} {w : World} {A : Around} {E : Value → Shared → Prop} {s : Shared}

theorem letGo_plain {target : Expr} {I : Addr} {o : Obj} {cls : String} {v : Value} {Q : Unit → Shared → Prop} (ht : plainTarget target = true) (ho : s.heap.get? I = some o) (hc : o.cls = .type cls)
    (hn : ["enumerate", "zip", "dict_itemiterator", "dict_reverseitemiterator", "odict_iterator", "itertools.zip_longest", "itertools.pairwise"].contains cls = false) (h : Q () s) :
    wpAny (model prog w) A (letOwnedTupleGo target (.ref I) v) Q E s := by
  cases target with
  | Tuple elts k pos =>
    unfold letOwnedTupleGo
    cases v with
    | ref a =>
      refine wpAny_bind (wpAny_load ho ?_)
      obtain ⟨c, d, data, sl⟩ := o
      have hc' : c = .type cls := hc
      subst hc'
      cases data with
      | fields vs =>
        dsimp only
        rw [hn, Bool.false_and]
        simp only [Bool.false_eq_true, if_false]
        exact wpAny_pure h
      | _ => exact wpAny_pure h
    | _ => exact wpAny_pure h
  | Name x px => exact wpAny_pure h
  | _ => cases ht

/-- an iterator stands ready at I, and nothing else has changed -/
structure Ready (prog : Program) (w : World) (A : Around) (target : Expr) (n : Nat) (P : Nat → Value → Heap → Prop) (s₁ : Shared) (fp wr : List Addr) (I : Addr) (it : Value) (s₂ : Shared) (St : Nat → Heap → Prop) : Prop where
  it : it = .ref I
  ok : It prog w A target I fp wr n P St
  st : St 0 s₂.heap
  lt : ∀ b ∈ fp, b < s₂.heap.objs.size
  new : ∀ b ∈ wr, s₁.heap.get? b = none
  up : ∀ b o, s₁.heap.get? b = some o → s₂.heap.get? b = some o
  down : ∀ b o, s₂.heap.get? b = some o → b ∉ wr → s₁.heap.get? b = some o
  same : ∃ h tk, s₂ = { s₁ with heap := h, toks := tk }

theorem mem_two {a b c : Addr} (h : c ∈ [a, b]) : c = a ∨ c = b := (List.mem_cons.mp h).imp id List.mem_singleton.mp
theorem It.list {target : Expr} (ht : plainTarget target = true) (hh : A.handled = none) (I ax : Addr) (hne : ax ≠ I) (items : Array Value) :
    It prog w A target I [I, ax] [I] items.size (fun i v _ => items[i]? = some v) (fun i h => h.IsListIter I ax i ∧ h.IsList ax items) := by
  have W := Walks.list (prog := prog) (w := w) hh I ax hne items
  refine ⟨⟨_, KTurns.ofWalks W fun i v s Q E st q => ?_⟩, fun i h st b hb => ?_, W.self⟩
  · obtain ⟨⟨o, ho, hc, -⟩, -⟩ := st
    exact letGo_plain ht ho hc (by decide) q
  · obtain ⟨⟨o, ho, -⟩, ⟨o', ho', -⟩⟩ := st
    exact (mem_two hb).elim (fun q => q ▸ ⟨o, ho⟩) fun q => q ▸ ⟨o', ho'⟩
theorem It.tuple {target : Expr} (ht : plainTarget target = true) (hh : A.handled = none) (I ax : Addr) (hne : ax ≠ I) (items : Array Value) :
    It prog w A target I [I, ax] [I] items.size (fun i v _ => items[i]? = some v) (fun i h => h.IsTupleIter I ax i ∧ h.IsTuple ax items) := by
  have W := Walks.tuple (prog := prog) (w := w) hh I ax hne items
  refine ⟨⟨_, KTurns.ofWalks W fun i v s Q E st q => ?_⟩, fun i h st b hb => ?_, W.self⟩
  · obtain ⟨⟨o, ho, hc, -⟩, -⟩ := st
    exact letGo_plain ht ho hc (by decide) q
  · obtain ⟨⟨o, ho, -⟩, ⟨o', ho', -⟩⟩ := st
    exact (mem_two hb).elim (fun q => q ▸ ⟨o, ho⟩) fun q => q ▸ ⟨o', ho'⟩
theorem It.rangeA {target : Expr} (ht : plainTarget target = true) (hh : A.handled = none) (I : Addr) (a : Int) (n : Nat) :
    It prog w A target I [I] [I] n (fun i v _ => ∃ t, v = .int (a + i) t) (fun i h => IsRangeIter h I (a + (i : Nat) * 1) ((n : Int) - (i : Nat)) 1) := by
  have W := Walks.range (prog := prog) (w := w) hh I a 1 n
  refine (It.mk ⟨_, KTurns.ofWalks (target := target) W fun i v s Q E st q => letGo_plain ht st rfl (by decide) q⟩ (fun i h st b hb => ?_) W.self).to ?_
  · exact List.mem_singleton.mp hb ▸ ⟨_, st⟩
  · rintro i v h ⟨t, rfl⟩
    exact ⟨t, by rw [Int.mul_one]⟩
theorem It.range {target : Expr} (ht : plainTarget target = true) (hh : A.handled = none) (I : Addr) (n : Nat) :
    It prog w A target I [I] [I] n (fun i v _ => ∃ t, v = .int i t) (fun i h => IsRangeIter h I (0 + (i : Nat) * 1) ((n : Int) - (i : Nat)) 1) :=
  (It.rangeA ht hh I 0 n).to fun i _ _ ⟨t, e⟩ => ⟨t, by rw [e, Int.zero_add]⟩

theorem ready_push {target : Expr} {n : Nat} {P : Nat → Value → Heap → Prop} {fp : List Addr} {o : Obj} {St : Nat → Heap → Prop} (ok : It prog w A target s.heap.objs.size fp [s.heap.objs.size] n P St)
    (st : St 0 (s.heap.push o)) (hf : ∀ b ∈ fp, b = s.heap.objs.size ∨ ∃ o, s.heap.get? b = some o) : Ready prog w A target n P s fp [s.heap.objs.size] s.heap.objs.size (.ref s.heap.objs.size) { s with heap := s.heap.push o } St where
  it := rfl
  ok := ok
  st := st
  lt := fun b hb => by
    show b < (s.heap.push o).objs.size
    rw [Heap.size_push]
    rcases hf b hb with rfl | ⟨o', ho'⟩
    · exact Nat.lt_succ_self _
    · exact Nat.lt_succ_of_lt (Heap.lt_size ho')
  new := fun b hb => by
    rw [List.mem_singleton] at hb; subst hb
    cases e : s.heap.get? s.heap.objs.size with
    | none => rfl
    | some o' => exact absurd (Heap.lt_size e) (Nat.lt_irrefl _)
  up := fun b o' e => Heap.get?_push_of_some _ e
  down := fun b o' e hb => by
    rw [List.mem_singleton] at hb
    rwa [show ({ s with heap := s.heap.push o } : Shared).heap.get? b = s.heap.get? b from Heap.get?_push_ne _ _ _ hb] at e
  same := ⟨_, s.toks, rfl⟩

theorem ready_list {target : Expr} {ax : Addr} {items : Array Value} {Q : Value → Shared → Prop} (ht : plainTarget target = true) (hh : A.handled = none) (hl : s.heap.IsList ax items)
    (h : ∀ I St s₂, Ready prog w A target items.size (fun i v _ => items[i]? = some v) s [I, ax] [I] I (.ref I) s₂ St → Q (.ref I) s₂) : wpAny (model prog w) A (pyIter (.ref ax)) Q E s := by
  refine wpAny_pyIter_list hl (h _ _ _ (ready_push (It.list ht hh s.heap.objs.size ax ?_ items) ⟨⟨_, Heap.get?_push_size _ rfl, rfl, rfl⟩, hl.at fun o e => Heap.get?_push_of_some _ e⟩ ?_))
  · obtain ⟨o, ho, _⟩ := hl; exact Nat.ne_of_lt (Heap.lt_size ho)
  · intro b hb
    rcases List.mem_cons.mp hb with e | hb
    · exact .inl e
    · rw [List.mem_singleton] at hb; subst hb; obtain ⟨o, ho, _⟩ := hl; exact .inr ⟨o, ho⟩
theorem ready_tuple {target : Expr} {ax : Addr} {items : Array Value} {Q : Value → Shared → Prop} (ht : plainTarget target = true) (hh : A.handled = none) (hl : s.heap.IsTuple ax items)
    (h : ∀ I St s₂, Ready prog w A target items.size (fun i v _ => items[i]? = some v) s [I, ax] [I] I (.ref I) s₂ St → Q (.ref I) s₂) : wpAny (model prog w) A (pyIter (.ref ax)) Q E s := by
  refine wpAny_pyIter_tuple hl (h _ _ _ (ready_push (It.tuple ht hh s.heap.objs.size ax ?_ items) ⟨⟨_, Heap.get?_push_size _ rfl, rfl, rfl⟩, hl.at fun o e => Heap.get?_push_of_some _ e⟩ ?_))
  · obtain ⟨o, ho, _⟩ := hl; exact Nat.ne_of_lt (Heap.lt_size ho)
  · intro b hb
    rcases List.mem_cons.mp hb with e | hb
    · exact .inl e
    · rw [List.mem_singleton] at hb; subst hb; obtain ⟨o, ho, _⟩ := hl; exact .inr ⟨o, ho⟩
theorem ready_range {target : Expr} {r : Addr} {n : Nat} {t u v : Tok} {Q : Value → Shared → Prop} (ht : plainTarget target = true) (hh : A.handled = none) (hr : IsRange s.heap r 0 n 1 t u v) (hn : n < 100000)
    (h : ∀ I St s₂, Ready prog w A target n (fun i v _ => ∃ t, v = .int i t) s [I] [I] I (.ref I) s₂ St → Q (.ref I) s₂) : wpAny (model prog w) A (pyIter (.ref r)) Q E s := by
  have e1 : Builtin.Range.rangeSize 0 n 1 = n := by
    rw [rangeSize_one]
    split <;> (first | lia | omega)
  refine wpAny_pyIter_range hr ?_ (h _ _ _ (ready_push (It.range ht hh s.heap.objs.size n) ?_ fun b hb => .inl (List.mem_singleton.mp hb)))
  · exact small_one (by (first | lia | omega)) (by (first | lia | omega)) (by (first | lia | omega)) (by (first | lia | omega))
  · rw [e1]
    have := Heap.get?_push_size s.heap (o := { cls := .type "range_iterator", data := .fields #[rawInt 0, rawInt n, rawInt 1] }) rfl
    simpa using this

/-- what a frame and a ledger keep over a step that only makes new objects -/
theorem fr_up {g h h' : Heap} {L : Addr} {m : Str → Option Value} (F : Fr g L h m) (up : ∀ b o, h.get? b = some o → h'.get? b = some o) : Fr g L h' m :=
  ⟨let ⟨o, es, ep, ho, r⟩ := F.ns; ⟨o, es, ep, up _ _ ho, r⟩, fun b o e => up b o (F.keep b o e), F.above⟩
theorem news_up {g h h' : Heap} {L : Addr} {news : List (Addr × Obj)} (N : News g L h news) (up : ∀ b o, h.get? b = some o → h'.get? b = some o) : News g L h' news := N.grown up
theorem range1 {g : Heap} {L : Addr} {m : Str → Option Value} {news : List (Addr × Obj)} {n : Int} {t : Tok} {Q : Value → Shared → Prop} (F : Fr g L s.heap m) (N : News g L s.heap news)
    (h : ∀ R h' tk t₁ u₁ v₁, IsRange h' R 0 n 1 t₁ u₁ v₁ → Fr g L h' m → News g L h' news → Q (.ref R) { s with heap := h', toks := tk }) : wpAny (model prog w) A (call (.type "range") [.int n t]) Q E s :=
  call_range_1 (h _ _ _ _ _ _ (IsRange.new ..) (F.push _) (news_up N fun _ _ => Heap.get?_push_of_some _))
end
end Mine
end
section
-- L5
open PySem PySem.W PyProof.Rows PySem.Calls PySem.Spec
namespace Mine
section
variable {prog : Program} {w : World} {A : Around} {E : Value → Shared → Prop} {s : Shared} {env : Env} {g : Heap} {L : Addr} {m mg mb : Str → Option Value} {news : List (Addr × Obj)} {K : Frag} {p : Program} {loose : List Str} {x : Str} {pos : Pos} {v : Value} {c : Addr} {o : Obj}

theorem nE_L {Q : Value → Shared → Prop} (F : Fr g env.locals s.heap m) (hv : m x = some v) (h : Q v s)
    (hk : env.scope.kind = .function) (hx : env.kindOf x = some .local) (hd : (x == ("__debug__" : Str)) = false) :
    wpAny (model prog w) A (eval (.Name x pos) env) Q E s := wpAny_Name (wpAny_loadName_local hk hx F.ns hv h) hd
theorem nE_C {Q : Value → Shared → Prop} (F : Fr g L s.heap m) (hc : env.cells.lookup x = some c) (hm : g.IsCell c (some v)) (h : Q v s)
    (hk : env.scope.kind = .function) (hx : env.kindOf x = some .cell) (hd : (x == ("__debug__" : Str)) = false) :
    wpAny (model prog w) A (eval (.Name x pos) env) Q E s := wpAny_Name (wpAny_loadName_cell hk hx hc (hm.keeps F.keep) h) hd
theorem nE_F {Q : Value → Shared → Prop} (F : Fr g L s.heap m) (hc : env.cells.lookup x = some c) (hm : g.IsCell c (some v)) (h : Q v s)
    (hk : env.scope.kind = .function) (hx : env.kindOf x = some .free) (hd : (x == ("__debug__" : Str)) = false) (hn : (x == ("__classdict__" : Str)) = false) :
    wpAny (model prog w) A (eval (.Name x pos) env) Q E s := wpAny_Name (wpAny_loadName_free hk hx hc (hm.keeps F.keep) h hn) hd
theorem nE_CN {Q : Value → Shared → Prop} (N : News g L s.heap news) (hc : env.cells.lookup x = some c) (hm : (c, o) ∈ news) (hd' : o.data = .cell (some v)) (h : Q v s)
    (hk : env.scope.kind = .function) (hx : env.kindOf x = some .cell) (hd : (x == ("__debug__" : Str)) = false) :
    wpAny (model prog w) A (eval (.Name x pos) env) Q E s := wpAny_Name (wpAny_loadName_cell hk hx hc ⟨o, N.get hm, hd'⟩ h) hd
theorem nE_K {Q : Value → Shared → Prop} (F : Fr g L s.heap m) (X : K.In g) (T : TopRead p loose mg mb g) (e : nsIn K mainGlobals x = some (some v)) (h : Q v s)
    (hk : env.scope.kind = .function) (hg : env.globals = mainGlobals) (hx : env.kindOf x = some .globalImplicit) (hd : (x == ("__debug__" : Str)) = false) :
    wpAny (model prog w) A (eval (.Name x pos) env) Q E s := Name_function_global hk hx (loadGlobal_global (env := env) (hg ▸ T.g.keeps F.keep) (mg_of X T.g e) h) hd
theorem nE_B {Q : Value → Shared → Prop} (F : Fr g L s.heap m) (X : K.In g) (T : TopRead p loose mg mb g) (e : nsIn K mainGlobals x = some none) (hv : bootBuiltins x = some v) (hn : x ≠ "__name__") (h : Q v s)
    (hk : env.scope.kind = .function) (hg : env.globals = mainGlobals) (hb : env.builtins = builtinsNs) (hx : env.kindOf x = some .globalImplicit) (hd : (x == ("__debug__" : Str)) = false) :
    wpAny (model prog w) A (eval (.Name x pos) env) Q E s :=
  Name_function_global hk hx (loadGlobal_builtin (env := env) (hg ▸ T.g.keeps F.keep) (mg_none_of X T.g e) (hb ▸ T.b.keeps F.keep) ((T.builtins x hn).trans hv) h) hd
theorem stE {Q : Unit → Shared → Prop} (F : Fr g env.locals s.heap m) (N : News g env.locals s.heap news)
    (h : ∀ h' tk', Fr g env.locals h' (fun y => if y = x then some v else m y) → News g env.locals h' news → Q () { s with heap := h', toks := tk' })
    (hl : env.kindOf x = some .local) (hp : (env.scope.kind == .class || (env.scope.kind == .module && env.locals != env.globals)) = false) :
    wpAny (model prog w) A (storeName env x v) Q E s :=
  wpAny_storeName_local hl F.ns (fun h' hn hs => h h' _ (F.set hn hs) (N.set hs)) hp

theorem shrN {a b : Int} {t u : Tok} {Q : Value → Shared → Prop} (hb : 0 ≤ b) (h : ∀ t' tk', Q (.int (a / 2 ^ b.toNat) t') { s with toks := tk' }) : wpAny (model prog w) A (binaryOp .RShift (.int a t) (.int b u)) Q E s := by
  refine rshift_int hb ?_
  rw [Int.fdiv_eq_ediv_of_nonneg _ (Int.le_of_lt (kbt_pos _))]
  exact h _ _
theorem and1 {a : Int} {t u : Tok} {Q : Value → Shared → Prop} (h : ∀ t' tk', Q (.int (a % 2) t') { s with toks := tk' }) : wpAny (model prog w) A (binaryOp .BitAnd (.int a t) (.int 1 u)) Q E s := by
  refine and_int ?_
  have := kbt_mask a 1
  simp only [Int.pow_one] at this
  rw [show (1 : Int) = 2 - 1 from rfl, this]
  exact h _ _

theorem ints_get {ys : List Value} {ns : List Int} (hi : IntsAre ys ns) {i : Nat} {v : Value} (h : ys[i]? = some v) : ∃ t, v = .int (ns.getD i 0) t := by
  have hl := hi.length
  have h1 : i < ys.length := by
    rcases Nat.lt_or_ge i ys.length with q | q
    · exact q
    · rw [List.getElem?_eq_none q] at h; cases h
  have h2 : i < ns.length := by (first | lia | omega)
  obtain ⟨t, e⟩ := hi.get i ns[i] (by simp [h2])
  rw [e] at h
  refine ⟨t, ?_⟩
  rw [← Option.some.inj h]
  simp [h2]
/-- sum of a list of ints, whatever its length; nothing of old changes -/
theorem sum_my {l : Addr} {ys : List Value} {ns : List Int} {Q : Value → Shared → Prop} (hh : A.handled = none) (hl : s.heap.IsList l ys.toArray) (hi : IntsAre ys ns)
    (h : ∀ h' tk t', (∀ b o, s.heap.get? b = some o → h'.get? b = some o) → Q (.int ns.sum t') { s with heap := h', toks := tk }) : wpAny (model prog w) A (call (.builtin "sum") [.ref l]) Q E s := by
  refine call_sum_walkG ?_
  have hlt : l < s.heap.objs.size := by obtain ⟨o, ho, _⟩ := id hl; exact Heap.lt_size ho
  refine wpAny_pyIter_list hl ⟨_, _, _, _, _, _, fun i => ns.getD i 0, rfl, Walks.list (A := A.in1) (show A.in1.handled = none from hh) s.heap.objs.size l (Nat.ne_of_lt hlt) ys.toArray, ⟨⟨_, Heap.get?_push_size _ rfl, rfl, rfl⟩, hl.at fun o e => Heap.get?_push_of_some _ e⟩, ?_, ?_, ?_⟩
  · intro b hb
    show b < (Heap.push _ _).objs.size
    rw [Heap.size_push]
    rcases List.mem_cons.mp hb with rfl | hb
    · exact Nat.lt_succ_self _
    · rw [List.mem_singleton] at hb; subst hb; exact Nat.lt_succ_of_lt hlt
  · intro i v hv
    exact ints_get hi (by simpa using hv)
  · intro h' tk t' hk
    have e : preSum (fun i => ns.getD i 0) ys.toArray.size = ns.sum := by
      rw [preSum_getD, List.size_toArray, hi.length, List.take_length]
    rw [e]
    exact h h' tk t' fun b o q => hk b o (fun hm => by rw [List.mem_singleton] at hm; subst hm; exact absurd (Heap.lt_size q) (Nat.lt_irrefl _)) (Heap.get?_push_of_some _ q)
theorem All2.ints {ns : List Int} : ∀ {ys : List Value} {js : List Nat} {f : Nat → Int}, All2 (fun y j => ∃ t, y = .int (f j) t) ys js → IntsAre ys (js.map f)
  | _, _, _, .nil => .nil
  | _, _, _, .cons ⟨t, e⟩ r => by subst e; exact .cons _ t (All2.ints (ns := ns) r)
theorem CEnd.of {g : Heap} {C : Addr} {ocs : List (Str × Addr)} {s : Shared} {h h' : Heap} {tk' : Nat} {m' cm' : Str → Option Value} {cells' extra : List (Addr × Obj)} {Φ : List (Addr × Obj) → Prop}
    (F : Fr g C h' m') (Y : CellsAre cm' ocs cells') (N : News g C h' (cells' ++ extra)) (hΦ : Φ []) : CEnd g C ocs s h extra Φ { s with heap := h', toks := tk' } :=
  ⟨h', tk', m', cm', cells', [], rfl, F, Y, N, hΦ, fun _ hp => nomatch hp⟩
end
end Mine
end
local macro_rules | `(tactic| k_all) => `(tactic| with_reducible assumption)
section
-- M0
open PySem PySem.W PyProof.Rows PySem.Calls PySem.Spec
namespace Mine
section
variable {prog : Program} {w : World} {A : Around} {E : Value → Shared → Prop} {s : Shared} {env : Env} {g : Heap}
/-- an address that nothing of the loop's own holds -/
inductive NewOff (hs : Heap) (wr : List Addr) (C D : Addr) (ocs : List (Str × Addr)) (b : Addr) : Prop
  | mk : hs.get? b = none → b ∉ wr → b ≠ C → b ≠ D → (∀ q ∈ ocs, b ≠ q.2) → NewOff hs wr C D ocs b
/-- an element and the objects that came with it -/
inductive Kept (Val : Nat → Value → List (Addr × Obj) → Prop) (h hs : Heap) (wr : List Addr) (C D : Addr) (ocs : List (Str × Addr)) (y : Value) (j : Nat) : Prop
  | mk (objs : List (Addr × Obj)) : Val j y objs → (∀ p ∈ objs, h.get? p.1 = some p.2 ∧ NewOff hs wr C D ocs p.1) → Kept Val h hs wr C D ocs y j
inductive CompJ (prog : Program) (g : Heap) (C D : Addr) (wr : List Addr) (ocs : List (Str × Addr)) (n : Nat) (St : Nat → Heap → Prop) (keep : Nat → Bool) (Val : Nat → Value → List (Addr × Obj) → Prop) (s : Shared) (k : Nat) (s' : Shared) : Prop
  | mk (i : Nat) (h : Heap) (tk : Nat) (m₁ cm₁ : Str → Option Value) (cells₁ : List (Addr × Obj)) (ys : List Value) :
    s' = { s with heap := h, toks := tk } → k = n - i → i ≤ n → St i h → Fr g C h m₁ → CellsAre cm₁ ocs cells₁ → News g C h cells₁ → h.PlainList D ys.toArray →
    All2 (Kept Val h s.heap wr C D ocs) ys ((List.range i).filter keep) →
    (∀ b o, b ∉ wr → b ≠ C → b ≠ D → (∀ p ∈ ocs, b ≠ p.2) → s.heap.get? b = some o → h.get? b = some o) → CompJ prog g C D wr ocs n St keep Val s k s'
/-- what a turn's end keeps -/
inductive TurnEnd (g : Heap) (C : Addr) (ocs : List (Str × Addr)) (s : Shared) (h' : Heap) (Φ : List (Addr × Obj) → Prop) (s₄ : Shared) : Prop
  | mk (h₄ : Heap) (tk₄ : Nat) (m₄ cm₄ : Str → Option Value) (cells₄ objs : List (Addr × Obj)) : s₄ = { s with heap := h₄, toks := tk₄ } → Fr g C h₄ m₄ → CellsAre cm₄ ocs cells₄ → News g C h₄ cells₄ →
    (∀ b o, b ≠ C → (∀ p ∈ ocs, b ≠ p.2) → h'.get? b = some o → h₄.get? b = some o) → Φ objs → (∀ p ∈ objs, h₄.get? p.1 = some p.2 ∧ h'.get? p.1 = none) → TurnEnd g C ocs s h' Φ s₄
theorem my_compLoopH {elt target iter : Expr} {ifs : List Expr} {scope : Scope} {pos : Pos} {I D C : Addr} {fp wr : List Addr} {n : Nat} {P : Nat → Value → Heap → Prop} {St : Nat → Heap → Prop} {R : Result → Shared → Prop}
    {m : Str → Option Value} {cm : Str → Option Value} {cells : List (Addr × Obj)} (cenv : Env) (ocs : List (Str × Addr)) (keep : Nat → Bool) (Val : Nat → Value → List (Addr × Obj) → Prop)
    (W : It prog w A target I fp wr n P St) (hst : St 0 s.heap) (F : Fr g C s.heap m) (hcl : CellsAre cm ocs cells) (N : News g C s.heap cells) (hwr : ∀ b ∈ wr, g.get? b = none) (hC : C ∉ fp) (hoc : ∀ p ∈ ocs, p.2 ∉ fp) (hD : D ∉ fp)
    (hDC : D ≠ C) (hDo : ∀ p ∈ ocs, p.2 ≠ D) (hDg : g.get? D = none) (hDl : s.heap.PlainList D #[]) (hsz : n ≤ sizeLine)
    (turn : ∀ i v h tk m₁ cm₁ cells₁ extra, i < n → P i v h → Fr g C h m₁ → CellsAre cm₁ ocs cells₁ → News g C h (cells₁ ++ extra) → (∀ p ∈ extra, ∀ q ∈ ocs, p.1 ≠ q.2) → (∀ b o, h.get? b = some o → g.get? b = some o ∨ b = C ∨ ∃ p ∈ cells₁ ++ extra, p.1 = b) →
      wpAny (model prog w) A (assign target cenv v) (fun _ s₂ => wpAny (model prog w) A (testsOf ifs cenv) (fun ok s₃ => ok = keep i ∧
        if ok = true then wpAny (model prog w) A (eval elt cenv) (fun y s₄ => CEnd g C ocs s h extra (Val i y) s₄) (fun _ _ => False) s₃
        else CEnd g C ocs s h extra (fun _ => True) s₃) (fun _ _ => False) s₂) (fun _ _ => False) { s with heap := h, toks := tk })
    (hR : ∀ h' tk m' cm' cells' (ys : List Value), Fr g C h' m' → CellsAre cm' ocs cells' → News g C h' cells' → h'.PlainList D ys.toArray →
      All2 (fun y j => ∃ objs, Val j y objs ∧ ∀ p ∈ objs, h'.get? p.1 = some p.2 ∧ s.heap.get? p.1 = none) ys ((List.range n).filter keep) →
      (∀ b o, b ∉ wr → b ≠ C → b ≠ D → (∀ p ∈ ocs, b ≠ p.2) → s.heap.get? b = some o → h'.get? b = some o) → R (.ok .next) { s with heap := h', toks := tk }) :
    codeAny (model prog w) A (.compLoop (.ListComp elt [⟨target, iter, ifs, 0⟩] scope pos) 0 (.ref I) (.ref D) cenv) R s := by
  refine my_compLoop0 (CompJ prog g C D wr ocs n St keep Val s) ?_ n
    ⟨0, s.heap, s.toks, m, cm, cells, [], rfl, rfl, Nat.zero_le _, hst, F, hcl, N, hDl, .nil, fun _ _ _ _ _ _ e => e⟩
  rintro k s' ⟨i, h, tk, m₁, cm₁, cells₁, ys, rfl, rfl, hi, st, F₁, Y₁, N₁, D₁, hys, stay⟩
  have hCw : C ∉ wr := fun q => hC (W.sub _ q)
  have hDw : D ∉ wr := fun q => hD (W.sub _ q)
  have how : ∀ p ∈ ocs, p.2 ∉ wr := fun p hp q => hoc p hp (W.sub _ q)
  have hcadr : ∀ {cm' : Str → Option Value} {cells' : List (Addr × Obj)}, CellsAre cm' ocs cells' → ∀ q ∈ cells', ∃ p ∈ ocs, p.2 = q.1 := fun Y q hq => by
    have := List.mem_map_of_mem (f := (·.1)) hq
    rw [CellsAre.adr Y] at this
    obtain ⟨p, hp, e⟩ := List.mem_map.mp this
    exact ⟨p, hp, e⟩
  have frNext : ∀ {h' : Heap}, (∀ b o, b ∉ wr → h.get? b = some o → h'.get? b = some o) → Fr g C h' m₁ ∧ News g C h' cells₁ := fun {h'} hk => by
    refine ⟨?_, fun p hp => ?_⟩
    · obtain ⟨oL, es, ep, hL', r⟩ := F₁.ns
      exact ⟨⟨oL, es, ep, hk _ _ hCw hL', r⟩, fun b o e => hk b o (fun q => by rw [hwr b q] at e; cases e) (F₁.keep b o e), F₁.above⟩
    · obtain ⟨q, hq, e⟩ := hcadr Y₁ p hp
      exact ⟨hk _ _ (e ▸ how q hq) (N₁ p hp).1, (N₁ p hp).2⟩
  by_cases hlt : i < n
  · refine wpAny_mono (W.item i _ ?Q ?E hlt st ?k) ?m fun _ _ e => ?e
    case m => rintro r s₁ ⟨v, rfl, hv⟩; exact hv
    case e => exact e
    intro v h' tk' hP st' hk
    obtain ⟨F₂, N₂⟩ := frNext hk
    have D₂ : h'.PlainList D ys.toArray := D₁.at fun o e => hk D o hDw e
    have N₃ : News g C h' (cells₁ ++ others g h' (C :: ocs.map (·.2))) := fun p hp => by
      rcases List.mem_append.mp hp with hp | hp
      · exact N₂ p hp
      · obtain ⟨a, b, c⟩ := others_mem.mp hp
        exact ⟨c, fun q => a (by rw [q]; exact .head _), b⟩
    have offE : ∀ p ∈ others g h' (C :: ocs.map (·.2)), ∀ q ∈ ocs, p.1 ≠ q.2 := fun p hp q hq e => (others_mem.mp hp).1 (by rw [e]; exact .tail _ (List.mem_map_of_mem (f := (·.2)) hq))
    -- what a turn's end keeps
    have kept : ∀ {Φ : List (Addr × Obj) → Prop} {s₄ : Shared}, CEnd g C ocs s h' (others g h' (C :: ocs.map (·.2))) Φ s₄ → TurnEnd g C ocs s h' Φ s₄ := by
      rintro Φ s₄ ⟨h₄, tk₄, m₄, cm₄, cells₄, objs, rfl, F₄, Y₄, N₄, hΦ, ho⟩
      refine ⟨h₄, tk₄, m₄, cm₄, cells₄, objs, rfl, F₄, Y₄, fun p hp => N₄ p (List.mem_append_left _ hp), fun b o hbC hbo e => ?_, hΦ, ho⟩
      cases q : g.get? b with
      | some o' =>
        have e1 := F₂.keep b o' q
        rw [e] at e1; cases e1
        exact F₄.keep b o q
      | none =>
        exact (N₄ (b, o) (List.mem_append_right _ (others_mem.mpr ⟨fun hm => by
          rcases List.mem_cons.mp hm with e' | hm
          · exact hbC e'
          · obtain ⟨p, hp, e'⟩ := List.mem_map.mp hm
            exact hbo p hp e'.symm, q, e⟩))).1
    have succR : (List.range (i + 1)).filter keep = (List.range i).filter keep ++ (if keep i = true then [i] else []) := by
      rw [List.range_succ, List.filter_append]
      by_cases hki : keep i = true <;> simp [hki]
    have h'none : ∀ b, h'.get? b = none → s.heap.get? b = none ∨ b ∈ wr ∨ b = C ∨ b = D ∨ ∃ p ∈ ocs, b = p.2 := fun b e => by
      cases q : s.heap.get? b with
      | none => exact .inl rfl
      | some o =>
        refine .inr ?_
        by_cases h1 : b ∈ wr
        · exact .inl h1
        by_cases h2 : b = C
        · exact .inr (.inl h2)
        by_cases h3 : b = D
        · exact .inr (.inr (.inl h3))
        by_cases h4 : ∃ p ∈ ocs, b = p.2
        · exact .inr (.inr (.inr h4))
        · have := hk b o h1 (stay b o h1 h2 h3 (fun p hp e => h4 ⟨p, hp, e⟩) q)
          rw [e] at this; cases this
    -- what is there in h' cannot be new
    have thereC : ∃ o, h'.get? C = some o := by obtain ⟨oL, es, ep, hL', r⟩ := F₂.ns; exact ⟨oL, hL'⟩
    have thereD : ∃ o, h'.get? D = some o := by obtain ⟨k, e⟩ := D₂; exact ⟨_, e⟩
    have thereW : ∀ b ∈ wr, ∃ o, h'.get? b = some o := fun b hb => W.live _ _ st' b (W.sub _ hb)
    have thereO : ∀ p ∈ ocs, ∃ o, h'.get? p.2 = some o := fun p hp => by
      have : p.2 ∈ cells₁.map (·.1) := by rw [CellsAre.adr Y₁]; exact List.mem_map_of_mem (f := (·.2)) hp
      obtain ⟨q, hq, e⟩ := List.mem_map.mp this
      exact ⟨q.2, e ▸ (N₂ q hq).1⟩
    have newOff : ∀ b, h'.get? b = none → NewOff s.heap wr C D ocs b := fun b e => by
      have a1 : b ∉ wr := fun q => by obtain ⟨o, ho⟩ := thereW b q; rw [e] at ho; cases ho
      have a2 : b ≠ C := fun q => by obtain ⟨o, ho⟩ := thereC; rw [← q, e] at ho; cases ho
      have a3 : b ≠ D := fun q => by obtain ⟨o, ho⟩ := thereD; rw [← q, e] at ho; cases ho
      have a4 : ∀ q ∈ ocs, b ≠ q.2 := fun p hp q => by obtain ⟨o, ho⟩ := thereO p hp; rw [← q, e] at ho; cases ho
      rcases h'none b e with h1 | h1 | h1 | h1 | ⟨p, hp, h1⟩
      · exact ⟨h1, a1, a2, a3, a4⟩
      · exact absurd h1 a1
      · exact absurd h1 a2
      · exact absurd h1 a3
      · exact absurd h1 (a4 p hp)
    have oldRes : ∀ {h₄ : Heap}, (∀ b o, b ≠ C → b ≠ D → (∀ p ∈ ocs, b ≠ p.2) → h'.get? b = some o → h₄.get? b = some o) →
        All2 (Kept Val h₄ s.heap wr C D ocs) ys ((List.range i).filter keep) := fun hk4 =>
      hys.mono fun y j ⟨objs, hv, ho⟩ => ⟨objs, hv, fun p hp => by
        obtain ⟨b1, b2, b3, b4, b5, b6⟩ := ho p hp
        exact ⟨hk4 _ _ b4 b5 b6 (hk _ _ b3 b1), b2, b3, b4, b5, b6⟩⟩
    have hall : ∀ b o, h'.get? b = some o → g.get? b = some o ∨ b = C ∨ ∃ p ∈ cells₁ ++ others g h' (C :: ocs.map (·.2)), p.1 = b := fun b o e => by
      cases q : g.get? b with
      | some o' => exact .inl (by rw [← F₂.keep b o' q, e])
      | none =>
        by_cases hbC : b = C
        · exact .inr (.inl hbC)
        by_cases hbo : ∃ p ∈ ocs, p.2 = b
        · obtain ⟨p, hp, e'⟩ := hbo
          have : p.2 ∈ cells₁.map (·.1) := by rw [CellsAre.adr Y₁]; exact List.mem_map_of_mem (f := (·.2)) hp
          obtain ⟨r, hr, er⟩ := List.mem_map.mp this
          exact .inr (.inr ⟨r, List.mem_append_left _ hr, er.trans e'⟩)
        · exact .inr (.inr ⟨(b, o), List.mem_append_right _ (others_mem.mpr ⟨fun hm => by
            rcases List.mem_cons.mp hm with e' | hm
            · exact hbC e'
            · obtain ⟨p, hp, e'⟩ := List.mem_map.mp hm
              exact hbo ⟨p, hp, e'⟩, q, e⟩), rfl⟩)
    refine wpAny_mono (turn i v h' tk' m₁ cm₁ cells₁ _ hlt hP F₂ Y₁ N₃ offE hall) (fun _ s₂ h₂ => wpAny_mono h₂ (fun ok s₃ h₃ => ?_) fun _ _ e => e.elim) fun _ _ e => e.elim
    obtain ⟨rfl, h₃⟩ := h₃
    cases hki : keep i with
    | false =>
      rw [hki] at h₃
      simp only [Bool.false_eq_true, if_false] at h₃ ⊢
      obtain ⟨h₄, tk₄, m₄, cm₄, cells₄, objs, rfl, F₄, Y₄, N₄, hk₄, _, _⟩ := kept h₃
      refine ⟨n - (i + 1), by (first | lia | omega), i + 1, h₄, tk₄, m₄, cm₄, cells₄, ys, rfl, rfl, hlt, W.frame _ _ _ st' (fun b hb o e => hk₄ b o (fun q => hC (q ▸ hb)) (fun p hp q => hoc p hp (q ▸ hb)) e), F₄, Y₄, N₄,
        D₂.at fun o e => hk₄ D o hDC (fun p hp q => hDo p hp q.symm) e, ?_, fun b o b1 b2 b3 b4 e => hk₄ b o b2 b4 (hk b o b1 (stay b o b1 b2 b3 b4 e))⟩
      rw [succR, hki]
      simp only [Bool.false_eq_true, if_false, List.append_nil]
      exact oldRes fun b o b1 _ b3 e => hk₄ b o b1 b3 e
    | true =>
      rw [hki] at h₃
      simp only [if_true] at h₃ ⊢
      refine wpAny_mono h₃ (fun y s₄ hend => ?_) fun _ _ e => e.elim
      obtain ⟨h₄, tk₄, m₄, cm₄, cells₄, objs, rfl, F₄, Y₄, N₄, hk₄, hv, ho⟩ := kept hend
      clear hend
      have D₄ : h₄.PlainList D ys.toArray := D₂.at fun o e => hk₄ D o hDC (fun p hp q => hDo p hp q.symm) e
      have hyl : ys.length ≤ i := by
        have e1 := hys.length
        have e2 := List.length_filter_le keep (List.range i)
        rw [List.length_range] at e2; (first | lia | omega)
      refine wpAny_list_append_plain (hsz := by rw [List.size_toArray]; (first | lia | omega)) D₄ fun h₅ hD₅ hs₅ => ?_
      have hex : ∀ b o, b ≠ D → h₄.get? b = some o → h₅.get? b = some o := hs₅.extBut
      rw [List.push_toArray] at hD₅
      have F₅ : Fr g C h₅ m₄ := by
        obtain ⟨oL, es, ep, hL', r⟩ := F₄.ns
        exact ⟨⟨oL, es, ep, hex _ _ (Ne.symm hDC) hL', r⟩, fun b o e => hex b o (fun q => by rw [q, hDg] at e; cases e) (F₄.keep b o e), F₄.above⟩
      refine ⟨n - (i + 1), by (first | lia | omega), i + 1, h₅, tk₄, m₄, cm₄, cells₄, ys ++ [y], rfl, rfl, hlt,
        W.frame _ _ _ st' (fun b hb o e => hex b o (fun q => hD (q ▸ hb)) (hk₄ b o (fun q => hC (q ▸ hb)) (fun p hp q => hoc p hp (q ▸ hb)) e)), F₅, Y₄, fun p hp => ?_, hD₅, ?_,
        fun b o b1 b2 b3 b4 e => hex b o b3 (hk₄ b o b2 b4 (hk b o b1 (stay b o b1 b2 b3 b4 e)))⟩
      · obtain ⟨q, hq, e⟩ := hcadr Y₄ p hp
        exact ⟨hex _ _ (e ▸ hDo q hq) (N₄ p hp).1, (N₄ p hp).2⟩
      · rw [succR, hki]
        simp only [if_true]
        refine (oldRes fun b o b1 b2 b3 e => hex b o b2 (hk₄ b o b1 b3 e)).snoc ⟨objs, hv, fun p hp => ?_⟩
        obtain ⟨c1, c2⟩ := ho p hp
        obtain ⟨d1, d2, d3, d4, d5⟩ := newOff _ c2
        exact ⟨hex _ _ d4 c1, d1, d2, d3, d4, d5⟩
  · have hin : i = n := by (first | lia | omega)
    subst hin
    refine W.done _ _ _ st fun h' tk' hk => ?_
    obtain ⟨F₂, N₂⟩ := frNext hk
    exact hR h' tk' m₁ cm₁ cells₁ ys F₂ Y₁ N₂ (D₁.at fun o e => hk D o hDw e)
      (hys.mono fun y j ⟨objs, hv, ho⟩ => ⟨objs, hv, fun p hp => by obtain ⟨a1, a2, a3, _, _, _⟩ := ho p hp; exact ⟨hk _ _ a3 a1, a2⟩⟩)
      fun b o b1 b2 b3 b4 e => hk b o b1 (stay b o b1 b2 b3 b4 e)
noncomputable def TurnH (prog : Program) (w : World) (A : Around) (elt target : Expr) (ifs : List Expr) (scope : Scope) (cl : List (Str × Addr)) (env : Env) (keep : Nat → Bool) (Val : Nat → Value → List (Addr × Obj) → Prop) (n : Nat) (P : Nat → Value → Heap → Prop) (wr : List Addr) (s₂ : Shared) : Prop :=
  ∀ g C ocs i v h tk m₁ cm₁ cells₁ extra, (∀ b o, g.get? b = some o → s₂.heap.get? b = some o ∧ b ∉ wr) → (∀ b o, b ∉ wr → s₂.heap.get? b = some o → g.get? b = some o) → ocs = cellsFrom (C + 1) scope.names [] → s₂.heap.objs.size < C →
        i < n → P i v h → Fr g C h m₁ → CellsAre cm₁ ocs cells₁ → News g C h (cells₁ ++ extra) → (∀ p ∈ extra, ∀ q ∈ ocs, p.1 ≠ q.2) → (∀ b o, h.get? b = some o → g.get? b = some o ∨ b = C ∨ ∃ p ∈ cells₁ ++ extra, p.1 = b) →
        wpAny (model prog w) A (assign target (compEnvC scope (ocs ++ cl) C env) v) (fun _ s₃ => wpAny (model prog w) A (testsOf ifs (compEnvC scope (ocs ++ cl) C env)) (fun ok s₄ => ok = keep i ∧
          if ok = true then wpAny (model prog w) A (eval elt (compEnvC scope (ocs ++ cl) C env)) (fun y s₅ => CEnd g C ocs s₂ h extra (Val i y) s₅) (fun _ _ => False) s₄
          else CEnd g C ocs s₂ h extra (fun _ => True) s₄) (fun _ _ => False) s₃) (fun _ _ => False) { s₂ with heap := h, toks := tk }
theorem turn_heap {H h : Heap} {tH : Nat} {C : Addr} {ocs : List (Str × Addr)} {extra : List (Addr × Obj)} {c₁ : Sem Unit} {c₂ : Sem Bool} {c₃ : Sem Value} {k : Bool} {V : Value → List (Addr × Obj) → Prop} {V₀ : List (Addr × Obj) → Prop} {S : Shared}
    (x : wpAny (model prog w) A c₁ (fun _ s₃ => wpAny (model prog w) A c₂ (fun ok s₄ => ok = k ∧ if ok = true then wpAny (model prog w) A c₃ (fun y s₅ => CEnd g C ocs s h extra (V y) s₅) (fun _ _ => False) s₄ else CEnd g C ocs s h extra V₀ s₄) (fun _ _ => False) s₃) (fun _ _ => False) S) :
    wpAny (model prog w) A c₁ (fun _ s₃ => wpAny (model prog w) A c₂ (fun ok s₄ => ok = k ∧ if ok = true then wpAny (model prog w) A c₃ (fun y s₅ => CEnd g C ocs { s with heap := H, toks := tH } h extra (V y) s₅) (fun _ _ => False) s₄ else CEnd g C ocs { s with heap := H, toks := tH } h extra V₀ s₄) (fun _ _ => False) s₃) (fun _ _ => False) S := by
  refine wpAny_mono x (fun _ s₃ h₃ => wpAny_mono h₃ (fun ok s₄ h₄ => ⟨h₄.1, ?_⟩) fun _ _ e => e) fun _ _ e => e
  have h5 := h₄.2
  cases ok with
  | true => exact wpAny_mono h5 (fun _ _ x => x.heap) fun _ _ e => e
  | false => exact CEnd.heap h5
/-- the heap of a comprehension that begins: its list, its namespace and its cells, all new -/
structure Laid (h : Heap) (names : List (Str × NameKind)) (H : Heap) : Prop where
  up : h.StaysIn H
  list : H.PlainList h.objs.size #[]
  ns : H.Ns (h.objs.size + 1) fun _ => none
  cells : ∀ n c, (n, c) ∈ cellsFrom (h.objs.size + 2) names [] → H.IsCell c none ∧ h.objs.size + 1 < c
theorem laid (h : Heap) (names : List (Str × NameKind)) :
    Laid h names (pushCells ((h.push { cls := .type "list", dict := none, data := .seq ([] : List Value).toArray }).push { cls := .type "dict", data := .dict #[] }) names) := by
  generalize e1 : h.push { cls := .type "list", dict := none, data := .seq ([] : List Value).toArray } = h1
  generalize e2 : h1.push { cls := .type "dict", data := .dict #[] } = h2
  have z1 : h1.objs.size = h.objs.size + 1 := e1 ▸ Heap.size_push ..
  have z2 : h2.objs.size = h.objs.size + 2 := by rw [← e2, Heap.size_push, z1]
  have k := pushCells_keeps names h2
  have k2 : ∀ b o, h1.get? b = some o → h2.get? b = some o := fun b o e => e2 ▸ Heap.get?_push_of_some _ e
  constructor
  · exact fun b o e => k b o (k2 b o (e1 ▸ Heap.get?_push_of_some _ e))
  · exact ⟨0, k _ _ (k2 _ _ (e1 ▸ Heap.get?_push_size h rfl))⟩
  · have new := Heap.Ns.new h1 (.type "dict")
    rw [e2, z1] at new
    exact new.keeps k
  · have ok := cellsFrom_ok names h2 h2.objs.size [] ⟨nofun, .nil⟩ (Nat.le_refl _)
    rw [z2] at ok
    exact ok.empty
/-- the objects of what was made, over a step that leaves them alone -/
theorem objs_over {Val : Nat → Value → List (Addr × Obj) → Prop} {N N' : Addr → Prop} {h h' : Heap} (up : ∀ b o, N b → h.get? b = some o → h'.get? b = some o) (imp : ∀ b, N b → N' b) {ys : List Value} {js : List Nat}
    (x : All2 (fun y j => ∃ objs, Val j y objs ∧ ∀ p ∈ objs, h.get? p.1 = some p.2 ∧ N p.1) ys js) : All2 (fun y j => ∃ objs, Val j y objs ∧ ∀ p ∈ objs, h'.get? p.1 = some p.2 ∧ N' p.1) ys js := by
  refine x.mono ?_
  rintro y j ⟨objs, v, at_⟩
  refine ⟨objs, v, fun p hp => ?_⟩
  obtain ⟨e, n⟩ := at_ p hp
  exact ⟨up _ _ n e, imp _ n⟩
/-- two parts in a row -/
theorem mono_two {α β : Type} {M : Model} {c : Sem α} {f : α → Sem β} {P P' : β → Shared → Prop} {E : Value → Shared → Prop} {s : Shared} (h : wpAny M A c (fun v s₁ => wpAny M A (f v) P E s₁) E s) (k : ∀ v s', P v s' → P' v s') :
    wpAny M A c (fun v s₁ => wpAny M A (f v) P' E s₁) E s := wpAny_mono h (fun _ _ x => wpAny_mono x k fun _ _ => id) fun _ _ => id
theorem comp_coreH {elt target iter : Expr} {ifs : List Expr} {scope : Scope} {cl : List (Str × Addr)} {pos : Pos} (keep : Nat → Bool) (Val : Nat → Value → List (Addr × Obj) → Prop)
    {s₂ : Shared} {I : Addr} {fp wr : List Addr} {n : Nat} {P : Nat → Value → Heap → Prop} {St : Nat → Heap → Prop} {RR : Value → Addr → Result → Shared → Prop}
    (W : It prog w A target I fp wr n P St) (hsz : n ≤ sizeLine) (hst : St 0 s₂.heap) (hfp : ∀ b ∈ fp, b < s₂.heap.objs.size)
    (turn : TurnH prog w A elt target ifs scope cl env keep Val n P wr s₂)
    (hRR : ∀ D C h' tk m' (ys : List Value), s₂.heap.get? D = none → s₂.heap.get? C = none → D ≠ C → h'.Ns C m' → h'.PlainList D ys.toArray → All2 (fun y j => ∃ objs, Val j y objs ∧ ∀ p ∈ objs, h'.get? p.1 = some p.2 ∧ s₂.heap.get? p.1 = none ∧ p.1 ≠ D ∧ p.1 ≠ C) ys ((List.range n).filter keep) →
        (∀ b o, b ∉ wr → s₂.heap.get? b = some o → h'.get? b = some o) → RR (.ref D) C (.ok .next) { s₂ with heap := h', toks := tk }) :
    wpAny (model prog w) A (newList []) (fun acc s₃ => wpAny (model prog w) A (newFunctionEnv scope env.globals cl [] env.qual none .none (some env)) (fun cenv s₄ =>
      codeAny (model prog w) A (.compStart (.ListComp elt [⟨target, iter, ifs, 0⟩] scope pos) 0 (.ref I) acc { cenv with scope := relabel scope env }) (RR acc cenv.locals) s₄) E s₃) E s₂ := by
  refine wpAny_newObj_type (newEnv_comp ?_) (Nat.zero_le sizeLine)
  dsimp only
  rw [Heap.size_push, cellsFrom_append]
  have L := laid s₂.heap scope.names
  generalize pushCells ((s₂.heap.push { cls := .type "list", dict := none, data := .seq ([] : List Value).toArray }).push { cls := .type "dict", data := .dict #[] }) scope.names = H at L ⊢
  have none_of : ∀ b, s₂.heap.objs.size ≤ b → s₂.heap.get? b = none := fun b => Heap.get?_none_of_le
  have lo : s₂.heap.objs.size ≤ s₂.heap.objs.size + 1 := Nat.le_succ _
  have cellLo : ∀ q ∈ cellsFrom (s₂.heap.objs.size + 2) scope.names [], s₂.heap.objs.size + 1 < q.2 := fun q hq => (L.cells q.1 q.2 hq).2
  have notFp : ∀ b, s₂.heap.objs.size ≤ b → b ∉ fp := fun b hb hm => Nat.not_lt.mpr hb (hfp b hm)
  have gs : (hideAll s₂.heap wr).objs.size = s₂.heap.objs.size := hideAll_size _ _
  have F : Fr (hideAll s₂.heap wr) (s₂.heap.objs.size + 1) H fun _ => none := ⟨L.ns, fun b o e => L.up b o (of_hideAll _ e), gs ▸ lo⟩
  obtain ⟨cells, N, Y⟩ := Cl.news (h₀ := hideAll s₂.heap wr) (h := H) (L := s₂.heap.objs.size + 1) (cm := fun _ => none) (gs ▸ lo) L.cells
  have st : St 0 H := W.frame 0 _ _ hst fun b _ o => L.up b o
  have loop := my_compLoopH (s := { s₂ with heap := H }) (elt := elt) (iter := iter) (ifs := ifs) (scope := scope) (pos := pos) (D := s₂.heap.objs.size) (R := RR (.ref s₂.heap.objs.size) (s₂.heap.objs.size + 1))
    (compEnvC scope (cellsFrom (s₂.heap.objs.size + 2) scope.names [] ++ cl) (s₂.heap.objs.size + 1) env) _ keep Val W st F Y N (fun b hb => hideAll_none _ hb) (notFp _ lo)
    (fun q hq => notFp _ (Nat.le_trans lo (Nat.le_of_lt (cellLo q hq)))) (notFp _ (Nat.le_refl _)) (Nat.ne_of_lt (Nat.lt_succ_self _)) (fun q hq => Nat.ne_of_gt (Nat.lt_trans (Nat.lt_succ_self _) (cellLo q hq)))
    (Heap.get?_none_of_le (Nat.le_of_eq gs)) L.list hsz ?turn ?fin
  exact codeAny_compStart_list loop (W.self 0 _ _ _ st loop)
  case turn =>
    intro i v h tk m₁ cm₁ cells₁ extra hi hP F₁ Y₁ N₁ apart all
    exact turn_heap (turn _ _ _ i v h tk m₁ cm₁ cells₁ extra (fun b o e => ⟨of_hideAll _ e, fun hm => by rw [hideAll_none _ hm] at e; cases e⟩) (fun b o hb e => hideAll_get _ e hb) rfl (Nat.lt_succ_self _) hi hP F₁ Y₁ N₁ apart all)
  case fin =>
    intro h' tk m' cm' cells' ys F' _ _ list made stay
    have stay' : ∀ b o, b ∉ wr → s₂.heap.get? b = some o → h'.get? b = some o := fun b o hb e => by
      have lt := Heap.lt_size e
      exact stay b o hb (Nat.ne_of_lt (Nat.lt_succ_of_lt lt)) (Nat.ne_of_lt lt) (fun q hq => Nat.ne_of_lt (Nat.lt_trans (Nat.lt_succ_of_lt lt) (cellLo q hq))) (L.up b o e)
    refine hRR _ _ h' tk m' ys (none_of _ (Nat.le_refl _)) (none_of _ lo) (Nat.ne_of_lt (Nat.lt_succ_self _)) F'.ns list (objs_over (N := fun b => H.get? b = none) (N' := fun b => s₂.heap.get? b = none ∧ b ≠ s₂.heap.objs.size ∧ b ≠ s₂.heap.objs.size + 1) (fun _ _ _ e => e) (fun b e => ?_) made) stay'
    -- what is not there when the loop begins is none of these
    have off : ∀ c o, H.get? c = some o → b ≠ c := fun c o x q => by rw [← q] at x; exact nomatch e.symm.trans x
    obtain ⟨oC, _, _, hC, _⟩ := L.ns
    obtain ⟨k, hD⟩ := L.list
    refine ⟨?_, off _ _ hD, off _ _ hC⟩
    cases q : s₂.heap.get? b with
    | none => rfl
    | some o => exact absurd rfl (off _ _ (L.up b o q))

/-- what a comprehension needs of its iterator, whatever is done with its list -/
inductive CompGoU (prog : Program) (w : World) (A : Around) (elt target : Expr) (ifs : List Expr) (scope : Scope) (cl : List (Str × Addr)) (env : Env) (keep : Nat → Bool) (Val : Nat → Value → List (Addr × Obj) → Prop) (use : Option (Value → Sem Unit)) (Q E : Value → Shared → Prop) (it : Value) (s₂ : Shared) : Prop
  | mk (I : Addr) (fp wr : List Addr) (n : Nat) (P : Nat → Value → Heap → Prop) (St : Nat → Heap → Prop) : it = .ref I → It prog w A target I fp wr n P St → n ≤ sizeLine → St 0 s₂.heap → (∀ b ∈ fp, b < s₂.heap.objs.size) →
      TurnH prog w A elt target ifs scope cl env keep Val n P wr s₂ →
      (∀ D C h' tk m' (ys : List Value), s₂.heap.get? D = none → s₂.heap.get? C = none → D ≠ C → h'.Ns C m' → h'.PlainList D ys.toArray → All2 (fun y j => ∃ objs, Val j y objs ∧ ∀ p ∈ objs, h'.get? p.1 = some p.2 ∧ s₂.heap.get? p.1 = none ∧ p.1 ≠ D ∧ p.1 ≠ C) ys ((List.range n).filter keep) →
        (∀ b o, b ∉ wr → s₂.heap.get? b = some o → h'.get? b = some o) → compPost (model prog w) A E use Q (.ref D) C (.ok .next) { s₂ with heap := h', toks := tk }) → CompGoU prog w A elt target ifs scope cl env keep Val use Q E it s₂
theorem comp_any {elt target iter : Expr} {ifs : List Expr} {scope : Scope} {cl : List (Str × Addr)} {pos p : Pos} {use : Option (Value → Sem Unit)} {Q : Value → Shared → Prop} (keep : Nat → Bool) (Val : Nat → Value → List (Addr × Obj) → Prop)
    (hclos : closureFor scope env = pure cl) (hkind : scope.kind = .function) (hnames : ∀ y ∈ scope.names, y.2 = .local → scope.names.lookup y.1 = some .local) (hs : ∀ x, foldedSetIterable iter env x = pure x)
    (h : wpAny (model prog w) A (eval iter env) (fun xv s₁ => wpAny (model prog w) A (pyIter xv) (CompGoU prog w A elt target ifs scope cl env keep Val use Q E) E s₁) E s) :
    wpAny (model prog w) A (comprehension (.ListComp elt [⟨target, iter, ifs, 0⟩] scope pos) scope env p (newList []) false (eval iter env) use) Q E s := by
  refine wpAny_comprehension_free rfl hs hclos hkind hnames (mono_two h ?_)
  rintro _ s₂ ⟨I, fp, wr, n, P, St, rfl, W, hsz, hst, hfp, turn, fin⟩
  exact comp_coreH keep Val W hsz hst hfp turn fin
end
end Mine
end
section
-- M1
open PySem PySem.W PyProof.Rows PySem.Calls PySem.Spec
namespace Mine
section
variable {prog : Program} {w : World} {A : Around} {E : Value → Shared → Prop} {s₁ s₂ : Shared} {env : Env} {g : Heap} {m : Str → Option Value} {news : List (Addr × Obj)}
/-- what a comprehension leaves behind -/
noncomputable def Made (g h : Heap) (L D : Addr) (s₁ : Shared) (Val : Nat → Value → List (Addr × Obj) → Prop) (ys : List Value) (js : List Nat) : Prop :=
  All2 (fun y j => ∃ objs, Val j y objs ∧ ∀ p ∈ objs, h.get? p.1 = some p.2 ∧ s₁.heap.get? p.1 = none) ys js
noncomputable def Turn (prog : Program) (w : World) (A : Around) (elt target : Expr) (ifs : List Expr) (scope : Scope) (cl : List (Str × Addr)) (env : Env) (keep : Nat → Bool) (Val : Nat → Value → List (Addr × Obj) → Prop) (n : Nat) (P : Nat → Value → Heap → Prop) (s₁ : Shared) : Prop :=
  ∀ g C i v h tk m₁ cm₁ cells₁ extra, (∀ b o, s₁.heap.get? b = some o → g.get? b = some o) → (∀ b o, g.get? b = some o → s₁.heap.get? b = some o) →
    i < n → P i v h → Fr g C h m₁ → CellsAre cm₁ (cellsFrom (C + 1) scope.names []) cells₁ → News g C h (cells₁ ++ extra) → (∀ p ∈ extra, ∀ q ∈ cellsFrom (C + 1) scope.names [], p.1 ≠ q.2) → (∀ b o, h.get? b = some o → g.get? b = some o ∨ b = C ∨ ∃ p ∈ cells₁ ++ extra, p.1 = b) →
    wpAny (model prog w) A (assign target (compEnvC scope (cellsFrom (C + 1) scope.names [] ++ cl) C env) v) (fun _ s₃ => wpAny (model prog w) A (testsOf ifs (compEnvC scope (cellsFrom (C + 1) scope.names [] ++ cl) C env)) (fun ok s₄ => ok = keep i ∧
      if ok = true then wpAny (model prog w) A (eval elt (compEnvC scope (cellsFrom (C + 1) scope.names [] ++ cl) C env)) (fun y s₅ => CEnd g C (cellsFrom (C + 1) scope.names []) s₁ h extra (Val i y) s₅) (fun _ _ => False) s₄
      else CEnd g C (cellsFrom (C + 1) scope.names []) s₁ h extra (fun _ => True) s₄) (fun _ _ => False) s₃) (fun _ _ => False) { s₁ with heap := h, toks := tk }
theorem Ready.turn {target elt : Expr} {ifs : List Expr} {scope : Scope} {cl : List (Str × Addr)} {keep : Nat → Bool} {Val : Nat → Value → List (Addr × Obj) → Prop} {n : Nat} {P : Nat → Value → Heap → Prop} {fp wr : List Addr} {I : Addr} {it : Value} {St : Nat → Heap → Prop}
    (Rd : Ready prog w A target n P s₁ fp wr I it s₂ St) (h : Turn prog w A elt target ifs scope cl env keep Val n P s₁) :
    TurnH prog w A elt target ifs scope cl env keep Val n P wr s₂ := by
  intro g C ocs i v h' tk m₁ cm₁ cells₁ extra h1 h2 hocs _ hi hP F Y N hex hall
  subst hocs
  obtain ⟨h2', tk2, rfl⟩ := Rd.same
  exact turn_heap (h g C i v h' tk m₁ cm₁ cells₁ extra (fun b o e => h2 b o (fun hm => by rw [Rd.new _ hm] at e; cases e) (Rd.up _ _ e)) (fun b o e => Rd.down _ _ (h1 b o e).1 (h1 b o e).2) hi hP F Y N hex hall)
theorem Ready.dn {target : Expr} {n : Nat} {P : Nat → Value → Heap → Prop} {fp wr : List Addr} {I b : Addr} {it : Value} {St : Nat → Heap → Prop} (Rd : Ready prog w A target n P s₁ fp wr I it s₂ St) (e : s₂.heap.get? b = none) : s₁.heap.get? b = none := by
  cases q : s₁.heap.get? b with
  | none => rfl
  | some o => exact nomatch e.symm.trans (Rd.up b o q)
theorem Ready.keeps {target : Expr} {n : Nat} {P : Nat → Value → Heap → Prop} {fp wr : List Addr} {I : Addr} {it : Value} {St : Nat → Heap → Prop} {h : Heap} (Rd : Ready prog w A target n P s₁ fp wr I it s₂ St)
    (stay : ∀ b o, b ∉ wr → s₂.heap.get? b = some o → h.get? b = some o) : s₁.heap.StaysIn h :=
  fun b o e => stay b o (fun hm => nomatch (Rd.new b hm).symm.trans e) (Rd.up b o e)
/-- what is new to a heap is neither of its ground nor its namespace, and none of its ledger -/
theorem fr_new {h : Heap} {L D : Addr} (F : Fr g L h m) (e : h.get? D = none) : g.get? D = none ∧ D ≠ L := by
  constructor
  · cases q : g.get? D with
    | none => rfl
    | some o => exact nomatch e.symm.trans (F.keep D o q)
  · rintro rfl
    have ⟨_, _, _, x, _⟩ := F.ns
    exact nomatch e.symm.trans x
theorem news_new {h : Heap} {L D : Addr} (N : News g L h news) (e : h.get? D = none) : ∀ q ∈ news, q.1 ≠ D := fun q hq x => nomatch (x ▸ e : h.get? q.1 = none).symm.trans (N q hq).1
theorem news_cons {h : Heap} {L D : Addr} {o : Obj} (N : News g L h news) (e : h.get? D = some o) (new : g.get? D = none ∧ D ≠ L) : News g L h ((D, o) :: news) := fun q hq =>
  (List.mem_cons.mp hq).elim (fun x => x ▸ ⟨e, new.2, new.1⟩) (N q)
theorem Ready.exp {target elt : Expr} {ifs : List Expr} {scope : Scope} {cl : List (Str × Addr)} {keep : Nat → Bool} {Val : Nat → Value → List (Addr × Obj) → Prop} {n : Nat} {P : Nat → Value → Heap → Prop} {fp wr : List Addr} {I : Addr} {it : Value} {St : Nat → Heap → Prop} {L : Addr} {Q : Value → Shared → Prop}
    (Rd : Ready prog w A target n P s₁ fp wr I it s₂ St) (F : Fr g L s₁.heap m) (N : News g L s₁.heap news) (hn : n ≤ sizeLine) (turn : Turn prog w A elt target ifs scope cl env keep Val n P s₁)
    (hQ : ∀ D h' tk cnt (ys : List Value), (∀ b o, s₁.heap.get? b = some o → h'.get? b = some o) → s₁.heap.get? D = none → Fr g L h' m → News g L h' ((D, W.listOf ys.toArray cnt) :: news) → (∀ q ∈ news, q.1 ≠ D) → Made g h' L D s₁ Val ys ((List.range n).filter keep) → Q (.ref D) { s₁ with heap := h', toks := tk }) :
    CompGoU prog w A elt target ifs scope cl env keep Val none Q E it s₂ := by
  refine ⟨I, fp, wr, n, P, St, Rd.it, Rd.ok, hn, Rd.st, Rd.lt, Rd.turn turn, fun D C h' tk mC ys hD hC hDC nsC list made stay => ⟨mC, nsC, fun h₃ only => ?_⟩⟩
  have off : ∀ b o, b ≠ C → h'.get? b = some o → h₃.get? b = some o := only.extBut
  have up : s₁.heap.StaysIn h₃ := fun b o e => off b o (fun q => nomatch (q ▸ Rd.dn hC : s₁.heap.get? b = none).symm.trans e) (Rd.keeps stay b o e)
  obtain ⟨cnt, at_⟩ := list.at (h' := h₃) fun o => off D o hDC
  have made' : Made g h₃ L D s₁ Val ys ((List.range n).filter keep) :=
    objs_over (N := fun b => s₂.heap.get? b = none ∧ b ≠ D ∧ b ≠ C) (N' := fun b => s₁.heap.get? b = none) (fun b o x => off b o x.2.2) (fun b x => Rd.dn x.1) made
  have := hQ D h₃ tk cnt ys up (Rd.dn hD) (fr_up F up) (news_cons (news_up N up) at_ (fr_new F (Rd.dn hD))) (news_new N (Rd.dn hD)) made'
  obtain ⟨_, _, rfl⟩ := Rd.same
  exact this
theorem Ready.asg {target elt : Expr} {ifs : List Expr} {scope : Scope} {cl : List (Str × Addr)} {keep : Nat → Bool} {Val : Nat → Value → List (Addr × Obj) → Prop} {n : Nat} {P : Nat → Value → Heap → Prop} {fp wr : List Addr} {I : Addr} {it : Value} {St : Nat → Heap → Prop} {y : Str} {py : Pos} {Q : Flow → Shared → Prop}
    (hy : env.kindOf y = some .local) (hp : (env.scope.kind == .class || (env.scope.kind == .module && env.locals != env.globals)) = false)
    (Rd : Ready prog w A target n P s₁ fp wr I it s₂ St) (F : Fr g env.locals s₁.heap m) (N : News g env.locals s₁.heap news) (hn : n ≤ sizeLine) (turn : Turn prog w A elt target ifs scope cl env keep Val n P s₁)
    (hQ : ∀ D h' tk cnt (ys : List Value), Fr g env.locals h' (fun z => if z = y then some (.ref D) else m z) → News g env.locals h' ((D, W.listOf ys.toArray cnt) :: news) → (∀ q ∈ news, q.1 ≠ D) → s₁.heap.get? D = none →
      Made g h' env.locals D s₁ Val ys ((List.range n).filter keep) → Q .next { s₁ with heap := h', toks := tk }) :
    CompGoU prog w A elt target ifs scope cl env keep Val (some (assign (.Name y py) env)) (fun _ s' => Q .next s') E it s₂ := by
  have ⟨oL, es, ep, hoL, dL⟩ := F.ns
  have new : ∀ b, s₂.heap.get? b = none → b ≠ env.locals := fun b e q => nomatch (q ▸ Rd.dn e : s₁.heap.get? env.locals = none).symm.trans hoL
  refine ⟨I, fp, wr, n, P, St, Rd.it, Rd.ok, hn, Rd.st, Rd.lt, Rd.turn turn, fun D C h' tk mC ys hD hC hDC nsC list made stay => ?_⟩
  have up₁ := Rd.keeps stay
  refine wpAny_assign_Name (wpAny_storeName_local hy ⟨oL, es, ep, up₁ _ _ hoL, dL⟩ (fun h₂ ns₂ only₂ => ⟨mC, nsC.sameBut only₂ (new C hC), fun h₃ only₃ => ?_⟩) hp)
  have off : ∀ b o, b ≠ env.locals → b ≠ C → h'.get? b = some o → h₃.get? b = some o := fun b o x y e => only₃.extBut b o y (only₂.extBut b o x e)
  have up : ∀ b o, b ≠ env.locals → s₁.heap.get? b = some o → h₃.get? b = some o := fun b o x e => off b o x (fun q => nomatch (q ▸ Rd.dn hC : s₁.heap.get? b = none).symm.trans e) (up₁ b o e)
  obtain ⟨cnt, at_⟩ := list.at (h' := h₃) fun o => off D o (new D hD) hDC
  have made' : Made g h₃ env.locals D s₁ Val ys ((List.range n).filter keep) :=
    objs_over (N := fun b => s₂.heap.get? b = none ∧ b ≠ D ∧ b ≠ C) (N' := fun b => s₁.heap.get? b = none) (fun b o x => off b o (new b x.1) x.2.2) (fun b x => Rd.dn x.1) made
  -- the ground lies below the namespace
  have below : ∀ b o, g.get? b = some o → b ≠ env.locals := fun b o e => Nat.ne_of_lt (Nat.lt_of_lt_of_le (Heap.lt_size e) F.above)
  have F' : Fr g env.locals h₃ (fun z => if z = y then some (.ref D) else m z) := ⟨ns₂.sameBut only₃ (Ne.symm (new C hC)), fun b o e => up b o (below b o e) (F.keep b o e), F.above⟩
  have N' : News g env.locals h₃ news := fun q hq => have ⟨a, b, c⟩ := N q hq; ⟨up q.1 q.2 b a, b, c⟩
  obtain ⟨_, _, rfl⟩ := Rd.same
  exact hQ D h₃ _ cnt ys F' (news_cons N' at_ (fr_new F (Rd.dn hD))) (news_new N (Rd.dn hD)) (Rd.dn hD) made'

inductive ExpNext (prog : Program) (w : World) (A : Around) (elt target : Expr) (ifs : List Expr) (scope : Scope) (cl : List (Str × Addr)) (env : Env) (keep : Nat → Bool) (Val : Nat → Value → List (Addr × Obj) → Prop) (Q : Value → Shared → Prop) (it : Value) (s₂ : Shared) : Prop
  | intro {s₁ : Shared} {g : Heap} {L : Addr} {m : Str → Option Value} {news : List (Addr × Obj)} {n : Nat} {P : Nat → Value → Heap → Prop} {fp wr : List Addr} {I : Addr} {St : Nat → Heap → Prop}
    (Rd : Ready prog w A target n P s₁ fp wr I it s₂ St) (F : Fr g L s₁.heap m) (N : News g L s₁.heap news) (hn : n ≤ sizeLine) (turn : Turn prog w A elt target ifs scope cl env keep Val n P s₁)
    (hQ : ∀ D h' tk cnt (ys : List Value), (∀ b o, s₁.heap.get? b = some o → h'.get? b = some o) → s₁.heap.get? D = none → Fr g L h' m → News g L h' ((D, W.listOf ys.toArray cnt) :: news) → (∀ q ∈ news, q.1 ≠ D) → Made g h' L D s₁ Val ys ((List.range n).filter keep) → Q (.ref D) { s₁ with heap := h', toks := tk }) :
    ExpNext prog w A elt target ifs scope cl env keep Val Q it s₂
theorem my_Exp {elt target iter : Expr} {ifs : List Expr} {scope : Scope} {cl : List (Str × Addr)} {pos : Pos} {s : Shared} {Q : Value → Shared → Prop} (keep : Nat → Bool) (Val : Nat → Value → List (Addr × Obj) → Prop)
    (hclos : closureFor scope env = pure cl) (hkind : scope.kind = .function) (hnames : ∀ y ∈ scope.names, y.2 = .local → scope.names.lookup y.1 = some .local)
    (h : wpAny (model prog w) A (eval iter env) (fun xv s₁ => wpAny (model prog w) A (pyIter xv) (ExpNext prog w A elt target ifs scope cl env keep Val Q) E s₁) E s)
    (hs : ∀ x, foldedSetIterable iter env x = pure x := by intro _; rfl) :
    wpAny (model prog w) A (eval (.ListComp elt [⟨target, iter, ifs, 0⟩] scope pos) env) Q E s := by
  rw [eval_ListComp]
  exact comp_any (use := none) keep Val hclos hkind hnames hs (mono_two h fun _ _ ⟨Rd, F, N, hn, turn, hQ⟩ => Rd.exp F N hn turn hQ)
inductive AsgNext (prog : Program) (w : World) (A : Around) (elt target : Expr) (ifs : List Expr) (scope : Scope) (cl : List (Str × Addr)) (env : Env) (keep : Nat → Bool) (Val : Nat → Value → List (Addr × Obj) → Prop) (y : Str) (Q : Flow → Shared → Prop) (it : Value) (s₂ : Shared) : Prop
  | intro {s₁ : Shared} {g : Heap} {m : Str → Option Value} {news : List (Addr × Obj)} {n : Nat} {P : Nat → Value → Heap → Prop} {fp wr : List Addr} {I : Addr} {St : Nat → Heap → Prop}
    (Rd : Ready prog w A target n P s₁ fp wr I it s₂ St) (F : Fr g env.locals s₁.heap m) (N : News g env.locals s₁.heap news) (hn : n ≤ sizeLine) (turn : Turn prog w A elt target ifs scope cl env keep Val n P s₁)
    (hQ : ∀ D h' tk cnt (ys : List Value), Fr g env.locals h' (fun z => if z = y then some (.ref D) else m z) → News g env.locals h' ((D, W.listOf ys.toArray cnt) :: news) → (∀ q ∈ news, q.1 ≠ D) → s₁.heap.get? D = none →
      Made g h' env.locals D s₁ Val ys ((List.range n).filter keep) → Q .next { s₁ with heap := h', toks := tk }) :
    AsgNext prog w A elt target ifs scope cl env keep Val y Q it s₂
theorem my_Asg {elt target iter : Expr} {ifs : List Expr} {scope : Scope} {cl : List (Str × Addr)} {y : Str} {py : Pos} {pos spos : Pos} {s : Shared} {Q : Flow → Shared → Prop} (keep : Nat → Bool) (Val : Nat → Value → List (Addr × Obj) → Prop)
    (hsw : swapsWith (.ListComp elt [⟨target, iter, ifs, 0⟩] scope pos) (some (.Name y py)) spos.line env = pure true)
    (hclos : closureFor scope env = pure cl) (hkind : scope.kind = .function) (hnames : ∀ y ∈ scope.names, y.2 = .local → scope.names.lookup y.1 = some .local)
    (hy : env.kindOf y = some .local) (hp : (env.scope.kind == .class || (env.scope.kind == .module && env.locals != env.globals)) = false)
    (h : wpAny (model prog w) A (eval iter env) (fun xv s₁ => wpAny (model prog w) A (pyIter xv) (AsgNext prog w A elt target ifs scope cl env keep Val y Q) E s₁) E s)
    (hs : ∀ x, foldedSetIterable iter env x = pure x := by intro _; rfl) :
    wpAny (model prog w) A (exec (.Assign [.Name y py] (.ListComp elt [⟨target, iter, ifs, 0⟩] scope pos) spos) env) Q E s := by
  rw [exec_Assign_Name_used _ _ _ _ hsw]
  refine wpAny_bind (wpAny_standAt (wpAny_bind (wpAny_bind (wpAny_mono (Q := fun _ s' => Q .next s') ?_ (fun _ _ q => wpAny_pure (wpAny_pure q)) fun _ _ x => x))))
  exact comp_any (use := some (assign (.Name y py) env)) keep Val hclos hkind hnames hs (mono_two h fun _ _ ⟨Rd, F, N, hn, turn, hQ⟩ => Rd.asg hy hp F N hn turn hQ)

theorem CEnd.one {h h' : Heap} {C D : Addr} {o : Obj} {ocs : List (Str × Addr)} {s : Shared} {tk' : Nat} {m' cm' : Str → Option Value} {cells' cells₁ extra : List (Addr × Obj)} {Φ : List (Addr × Obj) → Prop}
    (F : Fr g C h' m') (Y : CellsAre cm' ocs cells') (N : News g C h' ((D, o) :: (cells' ++ extra))) (hΦ : Φ [(D, o)]) (hall : ∀ b o, h.get? b = some o → g.get? b = some o ∨ b = C ∨ ∃ p ∈ cells₁ ++ extra, p.1 = b)
    (lt : ∀ p ∈ cells₁ ++ extra, p.1 < D) : CEnd g C ocs s h extra Φ { s with heap := h', toks := tk' } :=
  ⟨h', tk', m', cm', cells', [(D, o)], rfl, F, Y, fun p hp => N p (.tail _ hp), hΦ, fun p hp => by
    rw [List.mem_singleton] at hp; subst hp
    refine ⟨(N _ (.head _)).1, ?_⟩
    cases e : h.get? D with
    | none => rfl
    | some o' =>
      rcases hall _ _ e with q | q | ⟨p, hp, q⟩
      · have := (N _ (.head _)).2.2; rw [q] at this; cases this
      · exact absurd q (N _ (.head _)).2.1
      · exact absurd (lt p hp) (by rw [q]; exact Nat.lt_irrefl _)⟩
end
end Mine
end
section
-- C1
open PySem PySem.W PyProof.Rows PySem.Calls PySem.Spec
namespace Mine
-- lines of the walk
theorem lines_C1_1 : True := by
  k_with_none
  k_with "execs nil" => (k_here; first | k_gentoks | (refine SeqQ.next ?_; k_gentoks) | refine wpAny_execs_nil ?_)
  k_with "execs cons" => (k_here; first | k_gentoks | (refine SeqQ.next ?_; k_gentoks) | refine execs_consS ?_)
  k_with "eval ListComp" => refine Stopped.intro ?_
  k_with "exec Assign cons ListComp" => refine Stopped.intro ?_
  k_with "exec While Compare cons nil" => refine Stopped.intro ?_
  k_with "exec While Name cons nil" => refine Stopped.intro ?_
  k_with "exec For" => refine Stopped.intro ?_
  k_with "exec For Name Name cons nil" => refine Stopped.intro ?_
  k_with "exec For Name Call cons nil" => refine Stopped.intro ?_
  k_with "exec For Name Call cons cons" => refine Stopped.intro ?_
  k_with "exec For Tuple Name cons nil" => refine Stopped.intro ?_
  k_with "exec For Tuple Call cons nil" => refine Stopped.intro ?_
  k_with "exec For Tuple Name cons cons" => refine Stopped.intro ?_
  k_with "pyIter ref" => refine Stopped.intro ?_
  k_with "call ref" => refine Stopped.intro ?_
  k_with "WhileStep2" => refine Stopped.intro ?_
  k_with "ForPost" => refine Stopped.intro ?_
  k_with "CEnd" => refine Stopped.intro ?_
  k_with "call type:range" => (k_here; (with_unfolding_all refine' range1 ?zqk1 ?zqk2 ?_; (case zqk1 => k_asm); (case zqk2 => k_asm); k_whole); intro _ _ _ _ _ _ _ _ _; (try k_sweep); (try dsimp only))
  k_with "storeName" => (k_here; (with_reducible show wpAny _ _ (storeName (compEnvC _ _ _ _) _ _) _ _ _); (with_unfolding_all refine' stE ?zqF ?zqN ?_ ?zqa ?zqb; (case zqF => k_asm); (case zqN => k_asm); (case zqa => rfl); (case zqb => rfl); k_whole); intro _ _ _ _; (try k_sweep); (try dsimp only))
  k_with "storeName" => (k_here; (first
    | (with_unfolding_all refine' st_int ?zqF ?zqN ?_ ?zqa ?zqb; (case zqF => k_asm); (case zqN => k_asm); (case zqa => rfl); (case zqb => rfl); k_whole; intro _ _ _ _ _)
    | (with_unfolding_all refine' st_str ?zqF ?zqN ?_ ?zqa ?zqb; (case zqF => k_asm); (case zqN => k_asm); (case zqa => rfl); (case zqb => rfl); k_whole; intro _ _ _ _ _)
    | (with_unfolding_all refine' st_any ?zqF ?zqN ?_ ?zqa ?zqb; (case zqF => k_asm); (case zqN => k_asm); (case zqa => rfl); (case zqb => rfl); k_whole; intro _ _ _ _)); (try k_sweep); (try dsimp only))
  k_with "eval Name" => (k_here; (with_reducible show wpAny _ _ (eval (Expr.Name _ _) (compEnvC _ _ _ _)) _ _ _); k_dflt (first
    | (refine' nE_L ?zqF ?zqv ?_ ?zqa ?zqb ?zqc; (case zqb => rfl); (case zqa => rfl); (case zqc => decide); (case zqF => k_asm); (case zqv => first | rfl | assumption); k_whole)
    | (refine' nE_CN ?zqN ?zqc ?zqm ?zqd ?_ ?zqa ?zqb ?zqe; (case zqb => rfl); (case zqa => rfl); (case zqe => decide); (case zqN => k_asm); (case zqc => rfl); (case zqm => k_mem); (case zqd => k_asm); k_whole)
    | (refine' nE_C ?zqF ?zqc ?zqm ?_ ?zqa ?zqb ?zqd; (case zqb => rfl); (case zqa => rfl); (case zqd => decide); (case zqF => k_asm); (case zqc => rfl); (case zqm => k_asm); k_whole)
    | (refine' nE_F ?zqF ?zqc ?zqm ?_ ?zqa ?zqb ?zqd ?zqe; (case zqb => rfl); (case zqa => rfl); (case zqd => decide); (case zqe => decide); (case zqF => k_asm); (case zqc => rfl); (case zqm => k_asm); k_whole)
    | (refine' nE_K ?zqF ?zqX ?zqT ?zqe ?_ ?zqa ?zqg ?zqb ?zqd; (case zqb => rfl); (case zqa => rfl); (case zqg => rfl); (case zqd => decide); (case zqF => k_asm); (case zqX => k_asm); (case zqT => k_asm); (case zqe => k_is); k_whole)
    | (refine' nE_B ?zqF ?zqX ?zqT ?zqe ?zqv ?zqn ?_ ?zqa ?zqg ?zqi ?zqb ?zqd; (case zqb => rfl); (case zqa => rfl); (case zqg => rfl); (case zqi => rfl); (case zqd => decide); (case zqF => k_asm); (case zqX => k_asm); (case zqT => k_asm); (case zqe => k_is); (case zqv => boot_fast); (case zqn => decide); k_whole)))
  k_with "binaryOp RShift int int" => (k_here; (with_reducible refine' shrN ?zqa ?_; (case zqa => (first | lia | omega)); k_whole); intro _ _; (try dsimp only))
  k_with "binaryOp RShift int int" => (k_here; (with_reducible refine shr1 ?_); intro _ _; (try dsimp only))
  k_with "binaryOp BitAnd int int" => (k_here; (with_reducible refine and1 ?_); intro _ _; (try dsimp only))
  k_with "call builtin:sum" => refine Stopped.intro ?_
  trivial
noncomputable def pop5 (r : Int) : Int := r % 2 + r / 2 % 2 + r / 4 % 2 + r / 8 % 2 + r / 16 % 2

/-- a call that changes nothing: it gives v -/
inductive PureRes (P : Value → Heap → Prop) (s : Shared) (r : Value) (s' : Shared) : Prop
  | mk : ∀ h' tk', (s' = { s with heap := h', toks := tk' } ∧ s.heap.StaysIn h' ∧ P r h') → PureRes P s r s'

set_option maxHeartbeats 8000000 in
theorem lcount : ∀ (w : World) (hT : Heap) (A : Around) (s : Shared) (r : Int) (t : Tok) (E : Value → Shared → Prop),
    A.depth + 5 < recursionLimit → A.units + 40 < cLine → A.handled = none → Ctx w hT s.heap → 0 ≤ r → r < 32 →
    wpAny (model PySem.Challenge.rw_un0012_01.row.prog w) A (call (.ref 116) [.int r t]) (PureRes (fun v _ => ∃ t', v = .int (pop5 r) t') s) E s := by
  intro w hT A s r t E hdp hun hh C h0 h1
  obtain ⟨p, loose, mean, mg, mb, T⟩ := C.T
  k_dflt (refine' call_mineC [] C.In (T.nolimit.keeps C.st) (by k_is) (by k_is) (by first | lia | omega) (by exact BindsTo.of_eq rfl) (by exact rfl) (by decide +kernel) ?_ (by exact rfl) (by exact rfl) (by exact rfl); k_whole)
  intro g L' h₁ tk₁ cells hgs hsg F Y N lo
  replace F : Fr g L' h₁ (fun _ => none) := F
  obtain ⟨oc, hoc, dc⟩ := CellsAre.one Y
  replace dc : oc.data = .cell (some (.int r t)) := dc
  subst hoc
  clear Y
  replace N := N [] (by intro p hp'; cases hp')
  simp only [List.cons_append, List.nil_append] at N
  have gst : hT.StaysIn g := fun b o e => hsg b o (C.st b o e) (by simp)
  have X' := C.X.keeps gst
  have T' := T.keeps gst
  try dsimp only
  k_steps
  show wpAny _ _ _ _ _ _
  refine my_Exp (cl := [(Str.ofString "rights", L' + 1)]) (fun _ => true) (fun i y objs => objs = [] ∧ ∃ t, y = .int (r / 2 ^ i % 2) t) (by with_unfolding_all rfl) rfl (by decide) ?_
  k_steps
  show wpAny _ _ _ _ _ _
  rename_i R' h₂ tk₂ t₁ t₂ t₃ hR F₂ N₂
  refine ready_range (n := 5) (target := .Name _ _) rfl hh hR (by (first | lia | omega)) fun I St s₂ Rd => ExpNext.intro Rd F₂ N₂ (by rw [sizeLine_eq]; (first | lia | omega)) ?_ ?_
  · intro g₂ C₂ i v h₃ tk₃ m₁ cm₁ cells₁ extra hg1 hg2 hi hP F₃ Y₃ N₃ hex hall
    obtain ⟨t₄, rfl⟩ := hP
    have hcell : g₂.IsCell (L' + 1) (some (.int r t)) := ⟨oc, hg1 _ _ (N₂ _ (.head _)).1, dc⟩
    have X₂ := X'.keeps (h' := g₂) fun b o e => hg1 b o (F₂.keep b o e)
    clear F₂ N₂
    try dsimp only [testsOf]
    k_steps
    rename_i h₄ _ F₄ N₄ _ _ _ _
    exact CEnd.of F₄ Y₃ N₄ ⟨rfl, _, by rw [Int.toNat_natCast]⟩
  · intro D h₃ tk₃ cnt ys up hDn F₃ N₃ hne hM
    have hI : IntsAre ys ((List.range 5).map fun i => r / 2 ^ i % 2) := by
      have := All2.ints (ns := []) (f := fun i => r / 2 ^ i % 2) (All2.mono (R' := fun y j => ∃ t, y = .int (r / 2 ^ j % 2) t) (fun y j ⟨objs, hv, _⟩ => hv.2) hM)
      rwa [show (List.range 5).filter (fun _ => true) = List.range 5 from rfl] at this
    clear F₂ N₂ hM Rd up
    try dsimp only
    k_steps
    show wpAny _ _ _ _ _ _
    refine sum_my hh (PySem.IsL.isList (N₃ _ (.head _)).1) hI fun h₅ tk₅ t₅ up₅ => ?_
    have es : ((List.range 5).map fun i => r / 2 ^ i % 2).sum = pop5 r := by
      have er : (List.range 5).map (fun i => r / 2 ^ i % 2) = [r / 2 ^ 0 % 2, r / 2 ^ 1 % 2, r / 2 ^ 2 % 2, r / 2 ^ 3 % 2, r / 2 ^ 4 % 2] := rfl
      rw [er]
      unfold pop5
      simp only [List.sum_cons, List.sum_nil]
      have a0 : (2 : Int) ^ 0 = 1 := rfl
      have a1 : (2 : Int) ^ 1 = 2 := rfl
      have a2 : (2 : Int) ^ 2 = 4 := rfl
      have a3 : (2 : Int) ^ 3 = 8 := rfl
      have a4 : (2 : Int) ^ 4 = 16 := rfl
      rw [a0, a1, a2, a3, a4]
      (first | lia | omega)
    rw [es]
    exact ⟨h₅, tk₅, rfl, fun b o e => up₅ b o (F₃.keep b o (hsg b o e (by simp))), _, rfl⟩
end Mine
end
section
-- L6
open PySem PySem.W PyProof.Rows PySem.Calls PySem.Spec
namespace Mine
section
variable {prog : Program} {w : World} {A : Around} {E E' : Value → Shared → Prop} {s : Shared} {env : Env} {g : Heap}
theorem Ready.offG {L : Addr} {m : Str → Option Value} {target : Expr} {n : Nat} {P : Nat → Value → Heap → Prop} {fp wr : List Addr} {I : Addr} {it : Value} {s₂ : Shared} {St : Nat → Heap → Prop}
    (R : Ready prog w A target n P s fp wr I it s₂ St) (F : Fr g L s.heap m) : ∀ b ∈ wr, g.get? b = none := fun b hb => by
  cases e : g.get? b with
  | none => rfl
  | some o => have := F.keep b o e; rw [R.new b hb] at this; cases this
theorem Ready.offL {L : Addr} {m : Str → Option Value} {target : Expr} {n : Nat} {P : Nat → Value → Heap → Prop} {fp wr : List Addr} {I : Addr} {it : Value} {s₂ : Shared} {St : Nat → Heap → Prop}
    (R : Ready prog w A target n P s fp wr I it s₂ St) (F : Fr g L s.heap m) : L ∉ wr := fun hb => by
  obtain ⟨o, _, _, ho, _⟩ := F.ns
  rw [R.new L hb] at ho; cases ho
theorem Ready.offN {L : Addr} {news : List (Addr × Obj)} {target : Expr} {n : Nat} {P : Nat → Value → Heap → Prop} {fp wr : List Addr} {I : Addr} {it : Value} {s₂ : Shared} {St : Nat → Heap → Prop}
    (R : Ready prog w A target n P s fp wr I it s₂ St) (N : News g L s.heap news) : ∀ q ∈ news, q.1 ∉ wr := fun q hq hb => by
  have := (N q hq).1
  rw [R.new _ hb] at this; cases this

/-- for x in range(n) with else -/
theorem my_for_range {target : Expr} {body orelse : List Stmt} {r : Addr} {n : Nat} {t u v : Tok} {Q : Flow → Shared → Prop} {m : Str → Option Value} {news : List (Addr × Obj)}
    (J : Nat → (Str → Option Value) → List (Addr × Obj) → Prop) (ht : plainTarget target = true) (hh : A.handled = none) (hr : IsRange s.heap r 0 n 1 t u v) (hn : n < 100000)
    (F : Fr g env.locals s.heap m) (N : News g env.locals s.heap news) (hJ : J 0 m news)
    (turn : ∀ I i t h tk m₁ news₁ extra, i < n → J i m₁ news₁ → Fr g env.locals h m₁ → News g env.locals h (news₁ ++ extra) → (∀ p ∈ extra, ∀ q ∈ news₁, p.1 ≠ q.1) → (∀ q ∈ news₁, q.1 ∉ [I]) →
      wpAny (model prog w) A (assign target env (.int i t)) (fun _ s₂ => wpAny (model prog w) A (execs body env) (ForPost g env.locals [I] s (J (i + 1)) extra Q) (fun _ _ => False) s₂) (fun _ _ => False) { s with heap := h, toks := tk })
    (done : ∀ h tk m₁ news₁, J n m₁ news₁ → Fr g env.locals h m₁ → News g env.locals h news₁ → wpAny (model prog w) A (execs orelse env) Q (fun _ _ => False) { s with heap := h, toks := tk }) :
    wpAny (model prog w) A (pyIter (.ref r)) (fun it s₂ => codeAny (model prog w) A (.forLoop target it body orelse env) (fun r s' => match r with | .ok f => Q f s' | .error e => cameBackBy (model prog w) A env E e s') s₂) E' s := by
  refine ready_range (n := n) (target := target) ht hh hr hn fun I St s₂ Rd => ?_
  obtain ⟨h₂, tk₂, rfl⟩ := Rd.same
  refine my_forLoop (g := g) J Rd.ok Rd.st (fr_up F Rd.up) (news_up N Rd.up) (Rd.offL F) (Rd.offG F) (Rd.offN N) hJ ?_ done
  rintro i v h tk m₁ news₁ extra hi ⟨t, rfl⟩ hJ₁ F₁ N₁ he hn₁ _
  exact for_base (turn I i t h tk m₁ news₁ extra hi hJ₁ F₁ N₁ (fun p hp q hq e => hn₁ q hq (e ▸ he p hp)) hn₁)

/-- for target in xs (a list) -/
theorem my_for_list {target : Expr} {body orelse : List Stmt} {ax : Addr} {items : Array Value} {Q : Flow → Shared → Prop} {m : Str → Option Value} {news : List (Addr × Obj)}
    (J : Nat → (Str → Option Value) → List (Addr × Obj) → Prop) (ht : plainTarget target = true) (hh : A.handled = none) (hl : s.heap.IsList ax items)
    (F : Fr g env.locals s.heap m) (N : News g env.locals s.heap news) (hL : env.locals ≠ ax) (hn : ∀ q ∈ news, q.1 ≠ ax) (hJ : J 0 m news)
    (turn : ∀ I i v h tk m₁ news₁ extra, i < items.size → items[i]? = some v → J i m₁ news₁ → Fr g env.locals h m₁ → News g env.locals h (news₁ ++ extra) → (∀ p ∈ extra, ∀ q ∈ news₁, p.1 ≠ q.1) → (∀ q ∈ news₁, q.1 ∉ [I, ax]) → (∀ b ∈ [I, ax], ∃ o, h.get? b = some o) →
      wpAny (model prog w) A (assign target env v) (fun _ s₂ => wpAny (model prog w) A (execs body env) (ForPost g env.locals [I, ax] s (J (i + 1)) extra Q) (fun _ _ => False) s₂) (fun _ _ => False) { s with heap := h, toks := tk })
    (done : ∀ h tk m₁ news₁, J items.size m₁ news₁ → Fr g env.locals h m₁ → News g env.locals h news₁ → wpAny (model prog w) A (execs orelse env) Q (fun _ _ => False) { s with heap := h, toks := tk }) :
    wpAny (model prog w) A (pyIter (.ref ax)) (fun it s₂ => codeAny (model prog w) A (.forLoop target it body orelse env) (fun r s' => match r with | .ok f => Q f s' | .error e => cameBackBy (model prog w) A env E e s') s₂) E' s := by
  refine ready_list (target := target) ht hh hl fun I St s₂ Rd => ?_
  obtain ⟨h₂, tk₂, rfl⟩ := Rd.same
  have c2 : ∀ {b : Addr}, b ∈ [I, ax] → b ∈ [I] ∨ b = ax := fun hb => by
    rcases List.mem_cons.mp hb with e | hb
    · exact .inl (e ▸ List.mem_singleton.mpr rfl)
    · exact .inr (List.mem_singleton.mp hb)
  refine my_forLoop (g := g) J Rd.ok Rd.st (fr_up F Rd.up) (news_up N Rd.up) (fun hb => (c2 hb).elim (Rd.offL F) hL) (Rd.offG F) (fun q hq hb => (c2 hb).elim (Rd.offN N q hq) (hn q hq)) hJ ?_ done
  rintro i v h tk m₁ news₁ extra hi hP hJ₁ F₁ N₁ he hn₁ hlive
  exact for_base (turn I i v h tk m₁ news₁ extra hi hP hJ₁ F₁ N₁ (fun p hp q hq e => hn₁ q hq (e ▸ he p hp)) hn₁ hlive)

theorem my_for_tuple {target : Expr} {body orelse : List Stmt} {ax : Addr} {items : Array Value} {Q : Flow → Shared → Prop} {m : Str → Option Value} {news : List (Addr × Obj)}
    (J : Nat → (Str → Option Value) → List (Addr × Obj) → Prop) (ht : plainTarget target = true) (hh : A.handled = none) (hl : s.heap.IsTuple ax items)
    (F : Fr g env.locals s.heap m) (N : News g env.locals s.heap news) (hL : env.locals ≠ ax) (hn : ∀ q ∈ news, q.1 ≠ ax) (hJ : J 0 m news)
    (turn : ∀ I i v h tk m₁ news₁ extra, i < items.size → items[i]? = some v → J i m₁ news₁ → Fr g env.locals h m₁ → News g env.locals h (news₁ ++ extra) → (∀ p ∈ extra, ∀ q ∈ news₁, p.1 ≠ q.1) → (∀ q ∈ news₁, q.1 ∉ [I, ax]) → (∀ b ∈ [I, ax], ∃ o, h.get? b = some o) →
      wpAny (model prog w) A (assign target env v) (fun _ s₂ => wpAny (model prog w) A (execs body env) (ForPost g env.locals [I, ax] s (J (i + 1)) extra Q) (fun _ _ => False) s₂) (fun _ _ => False) { s with heap := h, toks := tk })
    (done : ∀ h tk m₁ news₁, J items.size m₁ news₁ → Fr g env.locals h m₁ → News g env.locals h news₁ → wpAny (model prog w) A (execs orelse env) Q (fun _ _ => False) { s with heap := h, toks := tk }) :
    wpAny (model prog w) A (pyIter (.ref ax)) (fun it s₂ => codeAny (model prog w) A (.forLoop target it body orelse env) (fun r s' => match r with | .ok f => Q f s' | .error e => cameBackBy (model prog w) A env E e s') s₂) E' s := by
  refine ready_tuple (target := target) ht hh hl fun I St s₂ Rd => ?_
  obtain ⟨h₂, tk₂, rfl⟩ := Rd.same
  have c2 : ∀ {b : Addr}, b ∈ [I, ax] → b ∈ [I] ∨ b = ax := fun hb => by
    rcases List.mem_cons.mp hb with e | hb
    · exact .inl (e ▸ List.mem_singleton.mpr rfl)
    · exact .inr (List.mem_singleton.mp hb)
  refine my_forLoop (g := g) J Rd.ok Rd.st (fr_up F Rd.up) (news_up N Rd.up) (fun hb => (c2 hb).elim (Rd.offL F) hL) (Rd.offG F) (fun q hq hb => (c2 hb).elim (Rd.offN N q hq) (hn q hq)) hJ ?_ done
  rintro i v h tk m₁ news₁ extra hi hP hJ₁ F₁ N₁ he hn₁ hlive
  exact for_base (turn I i v h tk m₁ news₁ extra hi hP hJ₁ F₁ N₁ (fun p hp q hq e => hn₁ q hq (e ▸ he p hp)) hn₁ hlive)
end
end Mine
end
section
-- C2
open PySem PySem.W PyProof.Rows PySem.Calls PySem.Spec
namespace Mine
-- lines of the walk
theorem lines_C2_1 : True := by
  k_with_none
  k_with "execs nil" => (k_here; first | k_gentoks | (refine SeqQ.next ?_; k_gentoks) | refine wpAny_execs_nil ?_)
  k_with "execs cons" => (k_here; first | k_gentoks | (refine SeqQ.next ?_; k_gentoks) | refine execs_consS ?_)
  k_with "eval ListComp" => refine Stopped.intro ?_
  k_with "exec Assign cons ListComp" => refine Stopped.intro ?_
  k_with "exec While Compare cons nil" => refine Stopped.intro ?_
  k_with "exec While Name cons nil" => refine Stopped.intro ?_
  k_with "exec For" => refine Stopped.intro ?_
  k_with "exec For Name Name cons nil" => refine Stopped.intro ?_
  k_with "exec For Name Call cons nil" => refine Stopped.intro ?_
  k_with "exec For Name Call cons cons" => refine Stopped.intro ?_
  k_with "exec For Tuple Name cons nil" => refine Stopped.intro ?_
  k_with "exec For Tuple Call cons nil" => refine Stopped.intro ?_
  k_with "exec For Tuple Name cons cons" => refine Stopped.intro ?_
  k_with "pyIter ref" => refine Stopped.intro ?_
  k_with "call ref" => refine Stopped.intro ?_
  k_with "WhileStep2" => refine Stopped.intro ?_
  k_with "ForPost" => refine Stopped.intro ?_
  k_with "CEnd" => refine Stopped.intro ?_
  k_with "call type:range" => (k_here; (with_unfolding_all refine' range1 ?zqk1 ?zqk2 ?_; (case zqk1 => k_asm); (case zqk2 => k_asm); k_whole); intro _ _ _ _ _ _ _ _ _; (try k_sweep); (try dsimp only))
  k_with "storeName" => (k_here; (with_reducible show wpAny _ _ (storeName (compEnvC _ _ _ _) _ _) _ _ _); (with_unfolding_all refine' stE ?zqF ?zqN ?_ ?zqa ?zqb; (case zqF => k_asm); (case zqN => k_asm); (case zqa => rfl); (case zqb => rfl); k_whole); intro _ _ _ _; (try k_sweep); (try dsimp only))
  k_with "storeName" => (k_here; (first
    | (with_unfolding_all refine' st_int ?zqF ?zqN ?_ ?zqa ?zqb; (case zqF => k_asm); (case zqN => k_asm); (case zqa => rfl); (case zqb => rfl); k_whole; intro _ _ _ _ _)
    | (with_unfolding_all refine' st_str ?zqF ?zqN ?_ ?zqa ?zqb; (case zqF => k_asm); (case zqN => k_asm); (case zqa => rfl); (case zqb => rfl); k_whole; intro _ _ _ _ _)
    | (with_unfolding_all refine' st_any ?zqF ?zqN ?_ ?zqa ?zqb; (case zqF => k_asm); (case zqN => k_asm); (case zqa => rfl); (case zqb => rfl); k_whole; intro _ _ _ _)); (try k_sweep); (try dsimp only))
  k_with "eval Name" => (k_here; (with_reducible show wpAny _ _ (eval (Expr.Name _ _) (compEnvC _ _ _ _)) _ _ _); k_dflt (first
    | (refine' nE_L ?zqF ?zqv ?_ ?zqa ?zqb ?zqc; (case zqb => rfl); (case zqa => rfl); (case zqc => decide); (case zqF => k_asm); (case zqv => first | rfl | assumption); k_whole)
    | (refine' nE_CN ?zqN ?zqc ?zqm ?zqd ?_ ?zqa ?zqb ?zqe; (case zqb => rfl); (case zqa => rfl); (case zqe => decide); (case zqN => k_asm); (case zqc => rfl); (case zqm => k_mem); (case zqd => k_asm); k_whole)
    | (refine' nE_C ?zqF ?zqc ?zqm ?_ ?zqa ?zqb ?zqd; (case zqb => rfl); (case zqa => rfl); (case zqd => decide); (case zqF => k_asm); (case zqc => rfl); (case zqm => k_asm); k_whole)
    | (refine' nE_F ?zqF ?zqc ?zqm ?_ ?zqa ?zqb ?zqd ?zqe; (case zqb => rfl); (case zqa => rfl); (case zqd => decide); (case zqe => decide); (case zqF => k_asm); (case zqc => rfl); (case zqm => k_asm); k_whole)
    | (refine' nE_K ?zqF ?zqX ?zqT ?zqe ?_ ?zqa ?zqg ?zqb ?zqd; (case zqb => rfl); (case zqa => rfl); (case zqg => rfl); (case zqd => decide); (case zqF => k_asm); (case zqX => k_asm); (case zqT => k_asm); (case zqe => k_is); k_whole)
    | (refine' nE_B ?zqF ?zqX ?zqT ?zqe ?zqv ?zqn ?_ ?zqa ?zqg ?zqi ?zqb ?zqd; (case zqb => rfl); (case zqa => rfl); (case zqg => rfl); (case zqi => rfl); (case zqd => decide); (case zqF => k_asm); (case zqX => k_asm); (case zqT => k_asm); (case zqe => k_is); (case zqv => boot_fast); (case zqn => decide); k_whole)))
  k_with "binaryOp RShift int int" => (k_here; (with_reducible refine' shrN ?zqa ?_; (case zqa => (first | lia | omega)); k_whole); intro _ _; (try dsimp only))
  k_with "binaryOp RShift int int" => (k_here; (with_reducible refine shr1 ?_); intro _ _; (try dsimp only))
  k_with "binaryOp BitAnd int int" => (k_here; (with_reducible refine and1 ?_); intro _ _; (try dsimp only))
  k_with "call builtin:sum" => refine Stopped.intro ?_
  trivial
noncomputable def rname : Nat → Str
  | 0 => Str.ofString "OPTIMIZED"
  | 1 => Str.ofString "NEWLOCALS"
  | 2 => Str.ofString "VARARGS"
  | 3 => Str.ofString "VARKEYWORDS"
  | _ => Str.ofString "NESTED"
noncomputable def pfN (c : Int) (i : Nat) : List Str := ((List.range i).filter fun k => decide (c / 2 ^ k % 2 = 1)).map rname
theorem pow_pos2 (i : Nat) : (0 : Int) < 2 ^ i := kbt_pos i
theorem fl_div (c : Int) (i : Nat) : c / 2 ^ i * 2 ^ i / 2 ^ i = c / 2 ^ i := Int.mul_ediv_cancel _ (by have := pow_pos2 i; (first | lia | omega))
theorem div_succ (c : Int) (i : Nat) : c / 2 ^ (i + 1) = c / 2 ^ i / 2 := by
  rw [Int.pow_succ, Int.ediv_ediv_of_nonneg (Int.le_of_lt (pow_pos2 i))]
theorem even_step (c : Int) (i : Nat) (h : c / 2 ^ i % 2 = 0) : c / 2 ^ i * 2 ^ i = c / 2 ^ (i + 1) * 2 ^ (i + 1) := by
  rw [div_succ, Int.pow_succ]
  have e : c / 2 ^ i = c / 2 ^ i / 2 * 2 := by (first | lia | omega)
  generalize c / 2 ^ i / 2 = q at e
  rw [e, Int.mul_assoc, Int.mul_comm 2]
theorem bit_big {c : Int} {i : Nat} (h0 : 0 ≤ c) (h1 : c < 32) (hi : 5 ≤ i) : c / 2 ^ i = 0 := by
  apply Int.ediv_eq_zero_of_lt h0
  have : (2 : Int) ^ 5 ≤ 2 ^ i := by
    obtain ⟨d, rfl⟩ := Nat.exists_eq_add_of_le hi
    rw [Int.pow_add]
    have := pow_pos2 d
    have e : (2 : Int) ^ 5 = 32 := rfl
    rw [e]; (first | lia | omega)
  have e : (2 : Int) ^ 5 = 32 := rfl
  (first | lia | omega)
theorem pfN_one {c : Int} {i : Nat} (h : c / 2 ^ i % 2 = 1) : pfN c (i + 1) = pfN c i ++ [rname i] := by
  unfold pfN
  rw [List.range_succ, List.filter_append, List.map_append]
  simp [h]
theorem pfN_zero {c : Int} {i : Nat} (h : c / 2 ^ i % 2 = 0) : pfN c (i + 1) = pfN c i := by
  unfold pfN
  rw [List.range_succ, List.filter_append, List.map_append]
  simp [h]
theorem xor_step {c : Int} {i : Nat} (h0 : 0 ≤ c) (h1 : c < 32) (hi : i < 5) (h : c / 2 ^ i % 2 = 1) : Builtin.bitXor (c / 2 ^ i * 2 ^ i) (2 ^ i) = c / 2 ^ (i + 1) * 2 ^ (i + 1) := by
  have key : ∀ n : _root_.Fin 32, ∀ k : _root_.Fin 5, ((n.val : Int) / 2 ^ k.val % 2 = 1) → Builtin.bitXor ((n.val : Int) / 2 ^ k.val * 2 ^ k.val) (2 ^ k.val) = (n.val : Int) / 2 ^ (k.val + 1) * 2 ^ (k.val + 1) := by decide +kernel
  obtain ⟨n, rfl⟩ := Int.eq_ofNat_of_zero_le h0
  exact key ⟨n, by (first | lia | omega)⟩ ⟨i, hi⟩ h
theorem pfN_last {c : Int} {i : Nat} (h0 : 0 ≤ c) (h1 : c < 32) (hi : i < 5) (h : c / 2 ^ (i + 1) = 0) : pfN c (i + 1) = pfN c 5 := by
  have key : ∀ n : _root_.Fin 32, ∀ k : _root_.Fin 5, ((n.val : Int) / 2 ^ (k.val + 1) = 0) → pfN (n.val : Int) (k.val + 1) = pfN (n.val : Int) 5 := by decide +kernel
  obtain ⟨n, rfl⟩ := Int.eq_ofNat_of_zero_le h0
  exact key ⟨n, by (first | lia | omega)⟩ ⟨i, hi⟩ h
theorem pfN_weight {c : Int} (h0 : 0 ≤ c) (h1 : c < 32) : ((pfN c 5).map (·.length)).sum + (pfN c 5).length ≤ 1048576 := by
  have key : ∀ n : _root_.Fin 32, ((pfN (n.val : Int) 5).map (·.length)).sum + (pfN (n.val : Int) 5).length ≤ 1048576 := by decide +kernel
  obtain ⟨n, rfl⟩ := Int.eq_ofNat_of_zero_le h0
  exact key ⟨n, by (first | lia | omega)⟩
theorem pfN_nil (i : Nat) : pfN 0 i = [] := by
  unfold pfN
  simp
noncomputable def pf (c : Int) : Str := if c = 0 then Str.ofString "0x0" else Txt.join (Str.ofString ", ") (pfN c 5)

section
variable {prog : Program} {w : World} {A : Around} {E : Value → Shared → Prop} {s : Shared} {g : Heap} {L na : Addr} {m : Str → Option Value} {news news' : List (Addr × Obj)} {vs : List Value} {xs : List Str} {cnt : Nat}
theorem strs_snoc {y : Str} {t : Tok} : ∀ {vs : List Value} {xs : List Str}, StrsAre vs xs → StrsAre (vs ++ [Value.str y t]) (xs ++ [y])
  | _, _, .nil => .cons y t .nil
  | _, _, .cons z u r => .cons z u (strs_snoc r)
theorem strs_len : ∀ {vs : List Value} {xs : List Str}, StrsAre vs xs → vs.length = xs.length
  | _, _, .nil => rfl
  | _, _, .cons _ _ r => congrArg (· + 1) (strs_len r)
theorem its_append {y : Str} {t : Tok} {Q : Value → Shared → Prop} (F : Fr g L s.heap m) (N : News g L s.heap news) (U : Upd na (W.listOf vs.toArray cnt) (W.listOf (vs ++ [Value.str y t]).toArray (cnt + 1)) news news') (ha : StrsAre vs xs) (hf : xs.length < 1000)
    (h : ∀ h', Fr g L h' m → News g L h' news' → StrsAre (vs ++ [Value.str y t]) (xs ++ [y]) → Q .none { s with heap := h' }) : wpAny (model prog w) A (call (.builtin "list.append") [.ref na, .str y t]) Q E s := by
  have hl := strs_len ha
  refine append_K (its := vs.toArray) F N (by simpa using U) (fun h' F' N' => h h' F' N' (strs_snoc ha)) ?_
  rw [List.size_toArray, sizeLine_eq]; (first | lia | omega)
theorem shl1 {b : Nat} {t u : Tok} {Q : Value → Shared → Prop} (hb : b < 64) (h : ∀ t' tk', Q (.int (2 ^ b) t') { s with toks := tk' }) : wpAny (model prog w) A (binaryOp .LShift (.int 1 t) (.int b u)) Q E s := by
  refine lshift_int_small (by (first | lia | omega)) (by (first | lia | omega)) (by decide) ?_
  rw [Int.one_mul, Int.toNat_natCast]
  exact h _ _
theorem andP {a : Int} {k : Nat} {t u : Tok} {Q : Value → Shared → Prop} (h : ∀ t' tk', Q (.int (a / 2 ^ k % 2 * 2 ^ k) t') { s with toks := tk' }) : wpAny (model prog w) A (binaryOp .BitAnd (.int a t) (.int (2 ^ k) u)) Q E s := by
  refine and_int ?_
  rw [kbt_bit]
  exact h _ _
theorem xorI {a b : Int} {t u : Tok} {Q : Value → Shared → Prop} (h : ∀ t' tk', Q (.int (Builtin.bitXor a b) t') { s with toks := tk' }) : wpAny (model prog w) A (inplaceOp .BitXor (.int a t) (.int b u)) Q E s := ixor_int (h _ _)
end
theorem lines_C2_2 : True := by
  k_with "call builtin:list.append" => (k_here; (with_unfolding_all refine' its_append ?zqk1 ?zqk2 ?zqkU ?zqk3 ?zqk5 ?_; (case zqk1 => k_asm); (case zqk2 => k_asm); (case zqkU => k_upd); (case zqk3 => k_asm); (case zqk5 => first | (first | lia | omega) | decide); k_whole); intro _ _ _ _; (try k_sweep))
  k_with "binaryOp LShift int int" => (k_here; (with_reducible refine shl1 ?zqa ?_; (case zqa => (first | lia | omega))); intro _ _; (try dsimp only))
  k_with "binaryOp BitAnd int int" => (k_here; (with_reducible refine andP ?_); intro _ _; (try dsimp only))
  k_with "inplaceOp BitXor int int" => (k_here; (with_reducible refine xorI ?_); intro _ _; (try dsimp only))
  k_with "call builtin:hex" => refine Stopped.intro ?_
  k_with "call builtin:str.join" => refine Stopped.intro ?_
  trivial

inductive PfJ (na : Addr) (c : Int) (i : Nat) (m : Str → Option Value) (news : List (Addr × Obj)) : Prop
  | mk (vs : List Value) (cnt : Nat) (t : Tok) (fl : Int) :
    (news = [(na, W.listOf vs.toArray cnt)]) →
    (StrsAre vs (pfN c i)) →
    (fl = c / 2 ^ i * 2 ^ i) →
    ((c = 0 ∨ fl ≠ 0)) →
    (m "names" = some (.ref na)) →
    (m "flags" = some (.int fl t)) →
    PfJ na c i m news
set_option maxHeartbeats 8000000 in
theorem pretty : ∀ (w : World) (hT : Heap) (A : Around) (s : Shared) (c : Int) (t : Tok) (E : Value → Shared → Prop),
    A.depth + 5 < recursionLimit → A.units + 40 < cLine → A.handled = none → Ctx w hT s.heap → 0 ≤ c → c < 32 →
    wpAny (model PySem.Challenge.rw_un0012_01.row.prog w) A (call (.ref 50) [.int c t]) (PureRes (fun v _ => ∃ t', v = .str (pf c) t') s) E s := by
  intro w hT A s c t E hdp hun hh C h0 h1
  obtain ⟨p, loose, mean, mg, mb, T⟩ := C.T
  k_dflt (refine' call_mine [] [("flags", .int c t)] C.In (T.nolimit.keeps C.st) (by k_is) (by k_is) (by first | lia | omega) (by exact BindsTo.of_eq rfl) (by exact locs rfl) (by exact rfl) ?_ (by exact rfl) (by exact rfl) (by exact rfl) (by decide); k_whole)
  intro g L' h₁ tk₁ hgs hsg F N
  replace N := N [] (by intro p hp'; cases hp')
  have gst : hT.StaysIn g := fun b o e => hsg b o (C.st b o e) (by simp)
  have X' := C.X.keeps gst
  have T' := T.keeps gst
  have fin : ∀ (h' : Heap) (tk : Nat) (m : Str → Option Value) (v : Value), Fr g L' h' m → (∃ t', v = .str (pf c) t') →
      PureRes (fun v _ => ∃ t', v = .str (pf c) t') s v { s with heap := h', toks := tk } := fun h' tk m v F hv =>
    ⟨h', tk, rfl, fun b o e => F.keep b o (hsg b o e (by simp)), hv⟩
  try dsimp only
  k_steps
  show wpAny _ _ _ _ _ _
  refine wpAny_For ?_
  k_steps
  show wpAny _ _ _ _ _ _
  rename_i na _ _ h₂ tk₂ _ h₃ tk₃ t₁ t₂ t₃ hR F₃ N₃
  refine my_for_range (n := 32) (PfJ na c) rfl hh hR (by (first | lia | omega)) F₃ N₃ ⟨[], 0, _, c, rfl, .nil, by simp, by (first | lia | omega), rfl, rfl⟩ ?_ ?_
  · rintro I i t₄ h₄ tk₄ m₁ news₁ extra hi ⟨vs, cnt, t₅, fl, rfl, hvs, hfl, hc, e1, e2⟩ F₄ N₄ hex hI
    clear F₃ N₃
    replace F₄ := fr_map [("names", .ref na), ("flags", .int fl t₅)] (by intro p hp; simp only [List.mem_cons, List.not_mem_nil, or_false] at hp; rcases hp with rfl | rfl <;> assumption) F₄
    clear e1 e2
    replace hex : ∀ p ∈ extra, p.1 ≠ na := fun p hp => hex p hp _ (.head _)
    have hI' : na ∉ [I] := hI _ (.head _)
    simp only [List.cons_append, List.nil_append] at N₄
    try dsimp only
    k_steps
    · show wpAny _ _ _ _ _ _
      rename_i hbit hky
      have hd0 : fl / 2 ^ i = c / 2 ^ i := by rw [hfl]; exact fl_div c i
      have hi5 : i < 5 := by
        rcases Nat.lt_or_ge i 5 with q | q
        · exact q
        · exfalso; apply hbit; rw [hd0, bit_big h0 h1 q]; simp
      have hb : c / 2 ^ i % 2 = 1 := by
        rcases Int.emod_two_eq (c / 2 ^ i) with q | q
        · exfalso; apply hbit; rw [hd0, q]; simp
        · exact q
      have hx : Builtin.bitXor fl (2 ^ i) = c / 2 ^ (i + 1) * 2 ^ (i + 1) := by rw [hfl]; exact xor_step h0 h1 hi5 hb
      have hN : pfN c (i + 1) = pfN c i ++ [rname i] := pfN_one hb
      have hNl : (pfN c i).length ≤ 5 := by
        unfold pfN
        rw [List.length_map]
        have e2 := List.length_filter_le (fun k => decide (c / 2 ^ k % 2 = 1)) (List.range i)
        rw [List.length_range] at e2; (first | lia | omega)
      have hc0 : c ≠ 0 := fun e => by rw [e, Int.zero_ediv] at hb; simp at hb
      have hlast : c / 2 ^ (i + 1) * 2 ^ (i + 1) = 0 → pfN c (i + 1) = pfN c 5 := fun e => by
        refine pfN_last h0 h1 hi5 ?_
        rcases Int.mul_eq_zero.mp e with q | q
        · exact q
        · exact absurd q (by have := pow_pos2 (i + 1); (first | lia | omega))
      clear hfl hd0 hbit
      have hi' : i = 0 ∨ i = 1 ∨ i = 2 ∨ i = 3 ∨ i = 4 := by (first | lia | omega)
      rcases hi' with rfl | rfl | rfl | rfl | rfl
      · rw [show (2 : Int) ^ 0 = 1 from rfl]
        refine P.hex_of_int ?_ (by decide +kernel)
        k_steps
        · rename_i _ hA₅ _ _ h₅ t₅ tk₅ F₅ N₅ hne
          exact ⟨h₅, tk₅, _, [_], rfl, F₅, N₅, fun q hq => by rw [List.mem_singleton] at hq; subst hq; exact hI', ⟨_, _, t₅, _, rfl, (by rw [hN]; exact hA₅), hx, .inr hne, rfl, rfl⟩⟩
        · rename_i _ hA₅ _ _ h₅ t₅ tk₅ F₅ N₅ hz
          show wpAny _ _ _ _ _ _
          k_steps
          show wpAny _ _ _ _ _ _
          have hA₆ : StrsAre _ (pfN c 5) := (hlast (hx.symm.trans hz)) ▸ hN ▸ hA₅
          refine join_listW (PySem.IsL.isList (N₅ _ (.head _)).1) hA₆ (by decide) (pfN_weight h0 h1) fun t₇ k₇ => ?_
          exact fin h₅ _ _ _ F₅ ⟨t₇, by rw [show pf c = Txt.join (Str.ofString ", ") (pfN c 5) from if_neg hc0]⟩
      · rw [show (2 : Int) ^ 1 = 2 from rfl]
        refine P.hex_of_int ?_ (by decide +kernel)
        k_steps
        · rename_i _ hA₅ _ _ h₅ t₅ tk₅ F₅ N₅ hne
          exact ⟨h₅, tk₅, _, [_], rfl, F₅, N₅, fun q hq => by rw [List.mem_singleton] at hq; subst hq; exact hI', ⟨_, _, t₅, _, rfl, (by rw [hN]; exact hA₅), hx, .inr hne, rfl, rfl⟩⟩
        · rename_i _ hA₅ _ _ h₅ t₅ tk₅ F₅ N₅ hz
          show wpAny _ _ _ _ _ _
          k_steps
          show wpAny _ _ _ _ _ _
          have hA₆ : StrsAre _ (pfN c 5) := (hlast (hx.symm.trans hz)) ▸ hN ▸ hA₅
          refine join_listW (PySem.IsL.isList (N₅ _ (.head _)).1) hA₆ (by decide) (pfN_weight h0 h1) fun t₇ k₇ => ?_
          exact fin h₅ _ _ _ F₅ ⟨t₇, by rw [show pf c = Txt.join (Str.ofString ", ") (pfN c 5) from if_neg hc0]⟩
      · rw [show (2 : Int) ^ 2 = 4 from rfl]
        refine P.hex_of_int ?_ (by decide +kernel)
        k_steps
        · rename_i _ hA₅ _ _ h₅ t₅ tk₅ F₅ N₅ hne
          exact ⟨h₅, tk₅, _, [_], rfl, F₅, N₅, fun q hq => by rw [List.mem_singleton] at hq; subst hq; exact hI', ⟨_, _, t₅, _, rfl, (by rw [hN]; exact hA₅), hx, .inr hne, rfl, rfl⟩⟩
        · rename_i _ hA₅ _ _ h₅ t₅ tk₅ F₅ N₅ hz
          show wpAny _ _ _ _ _ _
          k_steps
          show wpAny _ _ _ _ _ _
          have hA₆ : StrsAre _ (pfN c 5) := (hlast (hx.symm.trans hz)) ▸ hN ▸ hA₅
          refine join_listW (PySem.IsL.isList (N₅ _ (.head _)).1) hA₆ (by decide) (pfN_weight h0 h1) fun t₇ k₇ => ?_
          exact fin h₅ _ _ _ F₅ ⟨t₇, by rw [show pf c = Txt.join (Str.ofString ", ") (pfN c 5) from if_neg hc0]⟩
      · rw [show (2 : Int) ^ 3 = 8 from rfl]
        refine P.hex_of_int ?_ (by decide +kernel)
        k_steps
        · rename_i _ hA₅ _ _ h₅ t₅ tk₅ F₅ N₅ hne
          exact ⟨h₅, tk₅, _, [_], rfl, F₅, N₅, fun q hq => by rw [List.mem_singleton] at hq; subst hq; exact hI', ⟨_, _, t₅, _, rfl, (by rw [hN]; exact hA₅), hx, .inr hne, rfl, rfl⟩⟩
        · rename_i _ hA₅ _ _ h₅ t₅ tk₅ F₅ N₅ hz
          show wpAny _ _ _ _ _ _
          k_steps
          show wpAny _ _ _ _ _ _
          have hA₆ : StrsAre _ (pfN c 5) := (hlast (hx.symm.trans hz)) ▸ hN ▸ hA₅
          refine join_listW (PySem.IsL.isList (N₅ _ (.head _)).1) hA₆ (by decide) (pfN_weight h0 h1) fun t₇ k₇ => ?_
          exact fin h₅ _ _ _ F₅ ⟨t₇, by rw [show pf c = Txt.join (Str.ofString ", ") (pfN c 5) from if_neg hc0]⟩
      · rw [show (2 : Int) ^ 4 = 16 from rfl]
        refine P.hex_of_int ?_ (by decide +kernel)
        k_steps
        · rename_i _ hA₅ _ _ h₅ t₅ tk₅ F₅ N₅ hne
          exact ⟨h₅, tk₅, _, [_], rfl, F₅, N₅, fun q hq => by rw [List.mem_singleton] at hq; subst hq; exact hI', ⟨_, _, t₅, _, rfl, (by rw [hN]; exact hA₅), hx, .inr hne, rfl, rfl⟩⟩
        · rename_i _ hA₅ _ _ h₅ t₅ tk₅ F₅ N₅ hz
          show wpAny _ _ _ _ _ _
          k_steps
          show wpAny _ _ _ _ _ _
          have hA₆ : StrsAre _ (pfN c 5) := (hlast (hx.symm.trans hz)) ▸ hN ▸ hA₅
          refine join_listW (PySem.IsL.isList (N₅ _ (.head _)).1) hA₆ (by decide) (pfN_weight h0 h1) fun t₇ k₇ => ?_
          exact fin h₅ _ _ _ F₅ ⟨t₇, by rw [show pf c = Txt.join (Str.ofString ", ") (pfN c 5) from if_neg hc0]⟩
    · rename_i h₅ t₅ tk₅ F₅ N₅ _ _ hz
      have hd0 : fl / 2 ^ i = c / 2 ^ i := by rw [hfl]; exact fl_div c i
      have hb : c / 2 ^ i % 2 = 0 := by
        rw [hd0] at hz
        rcases Int.emod_two_eq (c / 2 ^ i) with q | q
        · exact q
        · exfalso; rw [q, Int.one_mul] at hz; have := pow_pos2 i; (first | lia | omega)
      exact ⟨h₅, _, _, [_], rfl, F₅, N₅, fun q hq => by rw [List.mem_singleton] at hq; subst hq; exact hI', ⟨_, _, _, _, rfl, (by rw [pfN_zero hb]; exact hvs), hfl.trans (even_step c i hb), hc, rfl, rfl⟩⟩
  · rintro h₄ tk₄ m₁ news₁ ⟨vs, cnt, t₅, fl, rfl, hvs, hfl, hc, e1, e2⟩ F₄ N₄
    have hc0 : c = 0 := by
      rcases hc with q | q
      · exact q
      · exfalso; apply q; rw [hfl, bit_big h0 h1 (by (first | lia | omega))]; simp
    subst hc0
    have hf0 : fl = 0 := by rw [hfl]; simp
    subst hf0
    rw [pfN_nil] at hvs
    clear F₃ N₃
    replace F₄ := fr_map [("names", .ref na), ("flags", .int 0 t₅)] (by intro p hp; simp only [List.mem_cons, List.not_mem_nil, or_false] at hp; rcases hp with rfl | rfl <;> assumption) F₄
    clear e1 e2
    try dsimp only
    k_steps
    show wpAny _ _ _ _ _ _
    refine P.hex_of_int ?_ (by decide +kernel)
    k_steps
    show wpAny _ _ _ _ _ _
    rename_i h₅ F₅ N₅ hA₅
    refine join_listW (PySem.IsL.isList (N₅ _ (.head _)).1) hA₅ (by decide) (by decide +kernel) fun t₇ k₇ => ?_
    exact fin h₅ _ _ _ F₅ ⟨t₇, congrArg (fun x => Value.str x t₇) (by decide +kernel)⟩
end Mine
end
section
-- L7
open PySem PySem.W PyProof.Rows PySem.Calls PySem.Spec
namespace Mine
section
variable {prog : Program} {w : World} {A : Around} {E E' : Value → Shared → Prop} {s : Shared} {env : Env} {g : Heap}
open AutoSeq1 (wpAny_loadPart')
/-- a list's iterator and a tuple's share their code: one step of either -/
theorem seq_step {T id : String} {B : Builtin} {it l : Addr} {i n : Nat} {items : Array Value} {o ol : Obj} {Q : Option Value → Shared → Prop}
    (slot : Slot T "__next__" id) (hT : s.TypeIs (.ref it) T) (entry : entryFor table id = some B) (args : argsOk id ⟨[.ref it], []⟩) (hB : B = Builtin.«list_iterator.__next__» ∨ B = Builtin.«tuple_iterator.__next__»)
    (ho : s.heap.get? it = some o) (hd : o.data = .fields #[.ref l, .int i 0]) (hol : s.heap.get? l = some ol) (hdl : ol.data = .seq items n) (hh : items[i]? = none → A.handled = none)
    (more : ∀ x, items[i]? = some x → ∀ h' o', Heap.SameBut it s.heap h' → h'.get? it = some o' → o'.cls = o.cls → o'.data = .fields #[.ref l, .int (i + 1 : Nat) 0] → Q (some x) { s with heap := h' })
    (stop : items[i]? = none → ∀ h' e oe vs a0, Heap.ExtBut it s.heap h' → h'.get? e = some oe → oe.cls = .type "StopIteration" → oe.data = .fields vs → vs[1]? = some .none → vs[0]? = some a0 → s.heap.get? e = none → E (.ref e) { s with heap := h' }) :
    wpAny (model prog w) A (callSpecial? (.ref it) (Str.ofString "__next__")) Q E s := by
  refine wpAny_callSpecial?_slot (name := Str.ofString "__next__") hT slot (wpAny_call_entry slot hT entry ?_ args)
  rcases hB with rfl | rfl <;> cases hx : items[i]? <;>
    wp_walk using wpAny_field ho hd (x := .ref l) rfl, wpAny_field ho hd (x := .int i 0) rfl, wpAny_seqItems hol hdl <;>
    rw [Int.toNat_natCast, hx] <;>
    wp_walk using wpAny_setField ho hd (by simp)
  case inl.some | inr.some =>
    obtain ⟨c, d, _, sl⟩ := o
    cases hd
    exact ⟨_, rfl, more _ hx _ _ (Heap.SameBut.update ..) (Heap.get?_update_self _ ho rfl) rfl rfl⟩
  all_goals
    have free : A.in1.handled = none := hh hx
    unfold raiseNew
    wp_walk
    refine stop hx _ _ _ _ _ (((Heap.SameBut.update ..).extBut.push _).push _) (Heap.get?_push_size _ rfl) rfl rfl rfl rfl (Heap.get?_none_of_le ?_)
    rw [Heap.size_push, Heap.size_after_update]
    exact Nat.le_succ _
/-- enumerate's step over a tuple -/
theorem tup_next {it t : Addr} {i : Nat} {items : Array Value} {Q : Value → Shared → Prop} (hh : items[i]? = none → A.handled = none) (hit : s.heap.IsTupleIter it t i) (ht : s.heap.IsTuple t items)
    (more : ∀ x, items[i]? = some x → ∀ h', h'.IsTupleIter it t (i + 1) → Heap.SameBut it s.heap h' → Q x { s with heap := h' })
    (stop : items[i]? = none → ∀ h' e, Heap.ExtBut it s.heap h' → (∃ o, h'.get? e = some o ∧ o.cls = .type "StopIteration") → E (.ref e) { s with heap := h' }) :
    wpAny (model prog w) A (Builtin.SmallTypes.nextOf (.ref it)) Q E s := by
  have ⟨o, ho, hc, hd⟩ := hit
  have ⟨_, hol, _, _, hdl⟩ := ht
  exact wpAny_bind (seq_step F.slot_tuple_iterator_next hit.typeIs F.entry_tuple_iterator_next (F.args_tuple_iterator_next_1 _) (.inr rfl) ho hd hol hdl hh
    (fun x hx h' o' only ho' hc' hd' => wpAny_pure (more x hx h' ⟨o', ho', hc'.trans hc, hd'⟩ only)) fun hx h' e oe _ _ k hoe hce _ _ _ _ => stop hx h' e k ⟨oe, hoe, hce⟩)
/-- the builtins iter and next, over what the iterator itself does -/
theorem call_iter {x : Value} {Q : Value → Shared → Prop} (h : wpAny (model prog w) A.in1 (pyIter x) Q E s) : wpAny (model prog w) A (call (.builtin "iter") [x]) Q E s := by
  refine call_function_entry (by decide +kernel) (by decide +kernel) kdk_entry_iter (kdk_args_iter _) ?_
  wp_walk using wpAny_mono h
  · exact fun v _ q => wpAny_pure ⟨v, rfl, q⟩
  · exact fun _ _ => id
theorem call_next {T id : String} {it : Addr} {Q : Value → Shared → Prop} (hT : s.TypeIs (.ref it) T) (slot : Slot T "__next__" id)
    (h : wpAny (model prog w) A.in1 (callSpecial? (.ref it) (Str.ofString "__next__")) (fun r s' => ∃ v, r = some v ∧ Q v s') E s) : wpAny (model prog w) A (call (.builtin "next") [.ref it]) Q E s := by
  have one : someArgs "next" 1 2 ⟨[.ref it], []⟩ = pure [.ref it] := by kernel_rfl
  refine call_function_entry (by decide +kernel) (by decide +kernel) kdk_entry_next (kdk_args_next _) (wpAny_bind (wpAny_of_eq one ?_))
  dsimp only [List.headD_cons]
  refine wpAny_bind (wpAny_specialOf hT slot.lookup ?_)
  wp_walk using wpAny_mono h
  · rintro _ s' ⟨v, rfl, q⟩
    exact wpAny_pure ⟨v, rfl, q⟩
  · exact fun _ _ x => x
theorem drawsTuple (hh : A.handled = none) (it l : Addr) (hne : l ≠ it) (items : Array Value) :
    Draws prog w A it [it, l] items.size (fun i v => items[i]? = some v) (fun i h => h.IsTupleIter it l i ∧ h.IsTuple l items) := by
  refine ⟨fun i h st => ?_, fun i h h' st k => ⟨st.1.at (k it (.head _)), st.2.at (k l (.tail _ (.head _)))⟩, fun i s Q E hi st q => ?_, fun s Q E st q => ?_⟩
  · have ⟨⟨o, ho, _⟩, _⟩ := st
    exact ⟨o, ho⟩
  · have some_ : items[i]? ≠ none := fun e => Nat.not_lt.mpr (Array.getElem?_eq_none_iff.mp e) hi
    exact tup_next (fun e => absurd e some_) st.1 st.2 (fun x hx h' at_ only => q x h' s.toks hx ⟨at_, st.2.extBut only.extBut hne⟩ only) fun e => absurd e some_
  · have none_ : items[items.size]? = none := Array.getElem?_eq_none_iff.mpr (Nat.le_refl _)
    exact tup_next (fun _ => hh) st.1 st.2 (fun x hx => nomatch none_.symm.trans hx) fun _ => q

theorem push_old {h : Heap} {o : Obj} {c : Addr} (hc : c < h.objs.size) : (h.push o).get? c = h.get? c := Heap.get?_push_ne _ _ _ (Nat.ne_of_lt hc)
theorem push_new {h : Heap} {o : Obj} {n : Nat} (hn : h.objs.size = n) (hl : o.isFreed = false) : (h.push o).get? n = some o := by subst hn; exact Heap.get?_push_size _ hl
/-- an iterator all of whose own objects are new -/
theorem Ready.ofNew {target : Expr} {m n k : Nat} {P : Nat → Value → Heap → Prop} {fp wr : List Addr} {I : Addr} {St : Nat → Heap → Prop} {H : Heap} {tk : Nat} (ok : It prog w A target I fp wr m P St) (st : St 0 H) (hn : s.heap.objs.size = n) (hz : H.objs.size = n + k)
    (old : ∀ c, c < n → H.get? c = s.heap.get? c) (hwr : ∀ b, b ∈ wr ↔ n ≤ b ∧ b < n + k) (hfp : ∀ b ∈ fp, b < n + k) : Ready prog w A target m P s fp wr I (.ref I) { s with heap := H, toks := tk } St where
  it := rfl
  ok := ok
  st := st
  lt := fun b hb => Nat.lt_of_lt_of_eq (hfp b hb) hz.symm
  new := fun b hb => Heap.get?_none_of_le (Nat.le_trans (Nat.le_of_eq hn) ((hwr b).mp hb).1)
  up := fun b o e => (old b (Nat.lt_of_lt_of_eq (Heap.lt_size e) hn)).trans e
  down := fun b o e hb => by
    have top : b < n + k := Nat.lt_of_lt_of_eq (Heap.lt_size e) hz
    exact (old b (Nat.lt_of_not_le fun lo => hb ((hwr b).mpr ⟨lo, top⟩))).symm.trans e
  same := ⟨H, tk, rfl⟩
abbrev tupIt (l : Addr) : Obj := { cls := .type "tuple_iterator", data := .fields #[.ref l, .int 0 0] }
abbrev enumOf (it : Addr) : Obj := { cls := .type "enumerate", data := .fields #[.none, .bool false, .ref it, rawInt 0, .none, .none] }
/-- enumerate(t) makes the tuple's iterator, then its own object -/
theorem enum_new {l : Addr} {o : Obj} {items : Array Value} {n : Nat} {Q : Value → Shared → Prop} (ho : s.heap.get? l = some o) (hc : o.cls = .type "tuple") (hd : o.data = .seq items n)
    (h : Q (.ref (s.heap.push (tupIt l)).objs.size) { s with heap := (s.heap.push (tupIt l)).push (enumOf s.heap.objs.size) }) :
    wpAny (model prog w) A (Builtin.«enumerate.__new__» ⟨[.type "enumerate", .ref l], []⟩) (fun fin s' => ∃ v, fin = .done (.ret v) ∧ Q v s') E s := by
  have sub := sub_enumerate
  obtain ⟨heap, _, _, _, _⟩ := s
  have hL : Heap.IsTuple heap l items := ⟨o, ho, hc, n, hd⟩
  obtain ⟨_, _, _, _⟩ := o
  cases hc
  cases hd
  wp_walk using wpAny_loadPart' ho
  refine wpAny_stack_any fun _ => wpAny_pure ?_
  split
  all_goals try (rename_i c _ _ _ _ _; cases c == Value.type "enumerate")
  all_goals
    wp_walk using wpAny_loadPart' ho, wpAny_pyIter_tuple hL
    exact ⟨_, rfl, h⟩

/-- enumerate(t) over a tuple, then its iterator -/
theorem ready_enumT {elts : List Expr} {k : Nat} {pos : Pos} {l : Addr} {items : Array Value} {Q : Value → Shared → Prop} (hh : A.handled = none) (hL : s.heap.IsTuple l items)
    (h : ∀ I it St s₂, Ready prog w A (.Tuple elts k pos) items.size (fun i v h => ∃ T vals, v = .ref T ∧ h.IsTuple T vals ∧ ∃ t x, items[i]? = some x ∧ vals = #[.int i t, x]) s [I, it, l] [I, it] I (.ref I) s₂ St → wpAny (model prog w) A (pyIter (.ref I)) Q E s₂) :
    wpAny (model prog w) A (call (.type "enumerate") [.ref l]) (fun v s₁ => wpAny (model prog w) A (pyIter v) Q E s₁) E s := by
  obtain ⟨o, ho, hc, n, hd⟩ := id hL
  have at1 : (s.heap.push (tupIt l)).objs.size = s.heap.objs.size + 1 := Heap.size_push ..
  have lLt : l < s.heap.objs.size := Heap.lt_size ho
  generalize hN : s.heap.objs.size = N at at1 lLt
  refine callType_new F.called_enumerate (by decide) (F.typeCall_enumerate_1 _) (F.newCall_enumerate_1 _) (fun obj => F.args_object_init_2 obj _) F.entry_enumerate_new
    (S := fun _ R s' => s' = s ∧ R (.ok (.ret (.ref (s.heap.push (tupIt l)).objs.size))) { s with heap := (s.heap.push (tupIt l)).push (enumOf s.heap.objs.size) })
    (.of_wp fun _ _ _ _ _ ⟨e, r⟩ => by subst e; exact enum_new ho hc hd r) ⟨rfl, ?_⟩
  rw [at1, hN]
  generalize hH : (s.heap.push (tupIt l)).push (enumOf N) = H
  have old : ∀ c, c < N → H.get? c = s.heap.get? c := fun c lt => by rw [← hH, push_old (by rw [at1]; exact Nat.lt_succ_of_lt lt), push_old (by rw [hN]; exact lt)]
  have its : H.get? N = some (tupIt l) := by rw [← hH, push_old (by rw [at1]; exact Nat.lt_succ_self N)]; exact push_new hN rfl
  have its2 : H.get? (N + 1) = some (enumOf N) := hH ▸ push_new at1 rfl
  have size : H.objs.size = N + 2 := by rw [← hH, Heap.size_push, at1]
  have hL' : H.IsTuple l items := ⟨o, (old l lLt).trans ho, hc, n, hd⟩
  have W := WalksT.enumerateD (drawsTuple (prog := prog) (w := w) (A := A.in1) hh N l (Nat.ne_of_lt lLt) items) (N + 1) (Nat.succ_ne_self N) (fun hm => (mem_two hm).elim (Nat.succ_ne_self N) fun e => Nat.lt_irrefl N (Nat.lt_trans (Nat.lt_succ_self N) (e.symm ▸ lLt : N + 1 < N))) (.head _)
  refine ⟨⟨_, its2, rfl⟩, h (N + 1) N _ _ (Ready.ofNew (k := 2) (It.ofWalksU W.toU ?live) ⟨⟨.none, its2⟩, ⟨_, its, rfl, rfl⟩, hL'⟩ hN size old ?wr ?fp)⟩
  case live =>
    rintro i h ⟨⟨old, he⟩, ⟨o, ho, _⟩, ⟨o', ho', _⟩⟩ b hb
    rcases List.mem_cons.mp hb with rfl | hb
    · exact ⟨_, he⟩
    · exact (mem_two hb).elim (fun q => q ▸ ⟨o, ho⟩) fun q => q ▸ ⟨o', ho'⟩
  case wr =>
    intro b
    constructor
    · intro hb
      rcases mem_two hb with q | q <;> rw [q]
      · exact ⟨Nat.le_succ N, Nat.lt_succ_self _⟩
      · exact ⟨Nat.le_refl N, Nat.lt_add_of_pos_right (by decide)⟩
    intro hb
    rcases Nat.lt_or_ge N b with lt | ge
    · exact Nat.le_antisymm (Nat.le_of_lt_succ hb.2) lt ▸ .head _
    · exact Nat.le_antisymm ge hb.1 ▸ .tail _ (.head _)
  case fp =>
    intro b hb
    rcases List.mem_cons.mp hb with rfl | hb
    · exact Nat.lt_succ_self _
    · exact (mem_two hb).elim (fun q => q ▸ Nat.lt_add_of_pos_right (by decide)) fun q => q ▸ Nat.lt_add_right 2 lLt
end
end Mine
end
section
-- C3
open PySem PySem.W PyProof.Rows PySem.Calls PySem.Spec
namespace Mine
-- lines of the walk
theorem lines_C3_1 : True := by
  k_with_none
  k_with "execs nil" => (k_here; first | k_gentoks | (refine SeqQ.next ?_; k_gentoks) | refine wpAny_execs_nil ?_)
  k_with "execs cons" => (k_here; first | k_gentoks | (refine SeqQ.next ?_; k_gentoks) | refine execs_consS ?_)
  k_with "eval ListComp" => refine Stopped.intro ?_
  k_with "exec Assign cons ListComp" => refine Stopped.intro ?_
  k_with "exec While Compare cons nil" => refine Stopped.intro ?_
  k_with "exec While Name cons nil" => refine Stopped.intro ?_
  k_with "exec For" => refine Stopped.intro ?_
  k_with "exec For Name Name cons nil" => refine Stopped.intro ?_
  k_with "exec For Name Call cons nil" => refine Stopped.intro ?_
  k_with "exec For Name Call cons cons" => refine Stopped.intro ?_
  k_with "exec For Tuple Name cons nil" => refine Stopped.intro ?_
  k_with "exec For Tuple Call cons nil" => refine Stopped.intro ?_
  k_with "exec For Tuple Name cons cons" => refine Stopped.intro ?_
  k_with "pyIter ref" => refine Stopped.intro ?_
  k_with "call ref" => refine Stopped.intro ?_
  k_with "WhileStep2" => refine Stopped.intro ?_
  k_with "ForPost" => refine Stopped.intro ?_
  k_with "CEnd" => refine Stopped.intro ?_
  k_with "call type:range" => (k_here; (with_unfolding_all refine' range1 ?zqk1 ?zqk2 ?_; (case zqk1 => k_asm); (case zqk2 => k_asm); k_whole); intro _ _ _ _ _ _ _ _ _; (try k_sweep); (try dsimp only))
  k_with "storeName" => (k_here; (with_reducible show wpAny _ _ (storeName (compEnvC _ _ _ _) _ _) _ _ _); (with_unfolding_all refine' stE ?zqF ?zqN ?_ ?zqa ?zqb; (case zqF => k_asm); (case zqN => k_asm); (case zqa => rfl); (case zqb => rfl); k_whole); intro _ _ _ _; (try k_sweep); (try dsimp only))
  k_with "storeName" => (k_here; (first
    | (with_unfolding_all refine' st_int ?zqF ?zqN ?_ ?zqa ?zqb; (case zqF => k_asm); (case zqN => k_asm); (case zqa => rfl); (case zqb => rfl); k_whole; intro _ _ _ _ _)
    | (with_unfolding_all refine' st_str ?zqF ?zqN ?_ ?zqa ?zqb; (case zqF => k_asm); (case zqN => k_asm); (case zqa => rfl); (case zqb => rfl); k_whole; intro _ _ _ _ _)
    | (with_unfolding_all refine' st_any ?zqF ?zqN ?_ ?zqa ?zqb; (case zqF => k_asm); (case zqN => k_asm); (case zqa => rfl); (case zqb => rfl); k_whole; intro _ _ _ _)); (try k_sweep); (try dsimp only))
  k_with "eval Name" => (k_here; (with_reducible show wpAny _ _ (eval (Expr.Name _ _) (compEnvC _ _ _ _)) _ _ _); k_dflt (first
    | (refine' nE_L ?zqF ?zqv ?_ ?zqa ?zqb ?zqc; (case zqb => rfl); (case zqa => rfl); (case zqc => decide); (case zqF => k_asm); (case zqv => first | rfl | assumption); k_whole)
    | (refine' nE_CN ?zqN ?zqc ?zqm ?zqd ?_ ?zqa ?zqb ?zqe; (case zqb => rfl); (case zqa => rfl); (case zqe => decide); (case zqN => k_asm); (case zqc => rfl); (case zqm => k_mem); (case zqd => k_asm); k_whole)
    | (refine' nE_C ?zqF ?zqc ?zqm ?_ ?zqa ?zqb ?zqd; (case zqb => rfl); (case zqa => rfl); (case zqd => decide); (case zqF => k_asm); (case zqc => rfl); (case zqm => k_asm); k_whole)
    | (refine' nE_F ?zqF ?zqc ?zqm ?_ ?zqa ?zqb ?zqd ?zqe; (case zqb => rfl); (case zqa => rfl); (case zqd => decide); (case zqe => decide); (case zqF => k_asm); (case zqc => rfl); (case zqm => k_asm); k_whole)
    | (refine' nE_K ?zqF ?zqX ?zqT ?zqe ?_ ?zqa ?zqg ?zqb ?zqd; (case zqb => rfl); (case zqa => rfl); (case zqg => rfl); (case zqd => decide); (case zqF => k_asm); (case zqX => k_asm); (case zqT => k_asm); (case zqe => k_is); k_whole)
    | (refine' nE_B ?zqF ?zqX ?zqT ?zqe ?zqv ?zqn ?_ ?zqa ?zqg ?zqi ?zqb ?zqd; (case zqb => rfl); (case zqa => rfl); (case zqg => rfl); (case zqi => rfl); (case zqd => decide); (case zqF => k_asm); (case zqX => k_asm); (case zqT => k_asm); (case zqe => k_is); (case zqv => boot_fast); (case zqn => decide); k_whole)))
  k_with "binaryOp RShift int int" => (k_here; (with_reducible refine' shrN ?zqa ?_; (case zqa => (first | lia | omega)); k_whole); intro _ _; (try dsimp only))
  k_with "binaryOp RShift int int" => (k_here; (with_reducible refine shr1 ?_); intro _ _; (try dsimp only))
  k_with "binaryOp BitAnd int int" => (k_here; (with_reducible refine and1 ?_); intro _ _; (try dsimp only))
  k_with "call builtin:sum" => refine Stopped.intro ?_
  trivial
theorem lines_C3_2 : True := by
  k_with "call type:enumerate" => refine Stopped.intro ?_
  trivial
set_option maxHeartbeats 8000000 in
theorem fmt : ∀ (w : World) (hT : Heap) (A : Around) (s : Shared) (mode : Int) (t : Tok) (E : Value → Shared → Prop),
    A.depth + 5 < recursionLimit → A.units + 40 < cLine → A.handled = none → Ctx w hT s.heap →
    wpAny (model PySem.Challenge.rw_un0012_01.row.prog w) A (call (.ref 71) [.int mode t]) (PureRes (fun v _ => ∃ t', v = .int (Builtin.bitAnd mode 61440) t') s) E s := by
  intro w hT A s mode t E hdp hun hh C
  obtain ⟨p, loose, mean, mg, mb, T⟩ := C.T
  k_dflt (refine' call_mine [] [("mode", .int mode t)] C.In (T.nolimit.keeps C.st) (by k_is) (by k_is) (by first | lia | omega) (by exact BindsTo.of_eq rfl) (by exact locs rfl) (by exact rfl) ?_ (by exact rfl) (by exact rfl) (by exact rfl) (by decide); k_whole)
  intro g L' h₁ tk₁ hgs hsg F N
  replace N := N [] (by intro p hp'; cases hp')
  have gst : hT.StaysIn g := fun b o e => hsg b o (C.st b o e) (by simp)
  have X' := C.X.keeps gst
  have T' := T.keeps gst
  try dsimp only
  k_steps
  exact ⟨_, _, rfl, fun b o e => F.keep b o (hsg b o e (by simp)), _, rfl⟩
set_option maxHeartbeats 8000000 in
theorem imode : ∀ (w : World) (hT : Heap) (A : Around) (s : Shared) (mode : Int) (t : Tok) (E : Value → Shared → Prop),
    A.depth + 5 < recursionLimit → A.units + 40 < cLine → A.handled = none → Ctx w hT s.heap →
    wpAny (model PySem.Challenge.rw_un0012_01.row.prog w) A (call (.ref 64) [.int mode t]) (PureRes (fun v _ => ∃ t', v = .int (Builtin.bitAnd mode 4095) t') s) E s := by
  intro w hT A s mode t E hdp hun hh C
  obtain ⟨p, loose, mean, mg, mb, T⟩ := C.T
  k_dflt (refine' call_mine [] [("mode", .int mode t)] C.In (T.nolimit.keeps C.st) (by k_is) (by k_is) (by first | lia | omega) (by exact BindsTo.of_eq rfl) (by exact locs rfl) (by exact rfl) ?_ (by exact rfl) (by exact rfl) (by exact rfl) (by decide); k_whole)
  intro g L' h₁ tk₁ hgs hsg F N
  replace N := N [] (by intro p hp'; cases hp')
  have gst : hT.StaysIn g := fun b o e => hsg b o (C.st b o e) (by simp)
  have X' := C.X.keeps gst
  have T' := T.keeps gst
  try dsimp only
  k_steps
  exact ⟨_, _, rfl, fun b o e => F.keep b o (hsg b o e (by simp)), _, rfl⟩
end Mine
end
section
-- C4
open PySem PySem.W PyProof.Rows PySem.Calls PySem.Spec
namespace Mine
-- lines of the walk
theorem lines_C4_1 : True := by
  k_with_none
  k_with "execs nil" => (k_here; first | k_gentoks | (refine SeqQ.next ?_; k_gentoks) | refine wpAny_execs_nil ?_)
  k_with "execs cons" => (k_here; first | k_gentoks | (refine SeqQ.next ?_; k_gentoks) | refine execs_consS ?_)
  k_with "eval ListComp" => refine Stopped.intro ?_
  k_with "exec Assign cons ListComp" => refine Stopped.intro ?_
  k_with "exec While Compare cons nil" => refine Stopped.intro ?_
  k_with "exec While Name cons nil" => refine Stopped.intro ?_
  k_with "exec For" => refine Stopped.intro ?_
  k_with "exec For Name Name cons nil" => refine Stopped.intro ?_
  k_with "exec For Name Call cons nil" => refine Stopped.intro ?_
  k_with "exec For Name Call cons cons" => refine Stopped.intro ?_
  k_with "exec For Tuple Name cons nil" => refine Stopped.intro ?_
  k_with "exec For Tuple Call cons nil" => refine Stopped.intro ?_
  k_with "exec For Tuple Name cons cons" => refine Stopped.intro ?_
  k_with "pyIter ref" => refine Stopped.intro ?_
  k_with "call ref" => refine Stopped.intro ?_
  k_with "WhileStep2" => refine Stopped.intro ?_
  k_with "ForPost" => refine Stopped.intro ?_
  k_with "CEnd" => refine Stopped.intro ?_
  k_with "call type:range" => (k_here; (with_unfolding_all refine' range1 ?zqk1 ?zqk2 ?_; (case zqk1 => k_asm); (case zqk2 => k_asm); k_whole); intro _ _ _ _ _ _ _ _ _; (try k_sweep); (try dsimp only))
  k_with "storeName" => (k_here; (with_reducible show wpAny _ _ (storeName (compEnvC _ _ _ _) _ _) _ _ _); (with_unfolding_all refine' stE ?zqF ?zqN ?_ ?zqa ?zqb; (case zqF => k_asm); (case zqN => k_asm); (case zqa => rfl); (case zqb => rfl); k_whole); intro _ _ _ _; (try k_sweep); (try dsimp only))
  k_with "storeName" => (k_here; (first
    | (with_unfolding_all refine' st_int ?zqF ?zqN ?_ ?zqa ?zqb; (case zqF => k_asm); (case zqN => k_asm); (case zqa => rfl); (case zqb => rfl); k_whole; intro _ _ _ _ _)
    | (with_unfolding_all refine' st_str ?zqF ?zqN ?_ ?zqa ?zqb; (case zqF => k_asm); (case zqN => k_asm); (case zqa => rfl); (case zqb => rfl); k_whole; intro _ _ _ _ _)
    | (with_unfolding_all refine' st_any ?zqF ?zqN ?_ ?zqa ?zqb; (case zqF => k_asm); (case zqN => k_asm); (case zqa => rfl); (case zqb => rfl); k_whole; intro _ _ _ _)); (try k_sweep); (try dsimp only))
  k_with "eval Name" => (k_here; (with_reducible show wpAny _ _ (eval (Expr.Name _ _) (compEnvC _ _ _ _)) _ _ _); k_dflt (first
    | (refine' nE_L ?zqF ?zqv ?_ ?zqa ?zqb ?zqc; (case zqb => rfl); (case zqa => rfl); (case zqc => decide); (case zqF => k_asm); (case zqv => first | rfl | assumption); k_whole)
    | (refine' nE_CN ?zqN ?zqc ?zqm ?zqd ?_ ?zqa ?zqb ?zqe; (case zqb => rfl); (case zqa => rfl); (case zqe => decide); (case zqN => k_asm); (case zqc => rfl); (case zqm => k_mem); (case zqd => k_asm); k_whole)
    | (refine' nE_C ?zqF ?zqc ?zqm ?_ ?zqa ?zqb ?zqd; (case zqb => rfl); (case zqa => rfl); (case zqd => decide); (case zqF => k_asm); (case zqc => rfl); (case zqm => k_asm); k_whole)
    | (refine' nE_F ?zqF ?zqc ?zqm ?_ ?zqa ?zqb ?zqd ?zqe; (case zqb => rfl); (case zqa => rfl); (case zqd => decide); (case zqe => decide); (case zqF => k_asm); (case zqc => rfl); (case zqm => k_asm); k_whole)
    | (refine' nE_K ?zqF ?zqX ?zqT ?zqe ?_ ?zqa ?zqg ?zqb ?zqd; (case zqb => rfl); (case zqa => rfl); (case zqg => rfl); (case zqd => decide); (case zqF => k_asm); (case zqX => k_asm); (case zqT => k_asm); (case zqe => k_is); k_whole)
    | (refine' nE_B ?zqF ?zqX ?zqT ?zqe ?zqv ?zqn ?_ ?zqa ?zqg ?zqi ?zqb ?zqd; (case zqb => rfl); (case zqa => rfl); (case zqg => rfl); (case zqi => rfl); (case zqd => decide); (case zqF => k_asm); (case zqX => k_asm); (case zqT => k_asm); (case zqe => k_is); (case zqv => boot_fast); (case zqn => decide); k_whole)))
  k_with "binaryOp RShift int int" => (k_here; (with_reducible refine' shrN ?zqa ?_; (case zqa => (first | lia | omega)); k_whole); intro _ _; (try dsimp only))
  k_with "binaryOp RShift int int" => (k_here; (with_reducible refine shr1 ?_); intro _ _; (try dsimp only))
  k_with "binaryOp BitAnd int int" => (k_here; (with_reducible refine and1 ?_); intro _ _; (try dsimp only))
  k_with "call builtin:sum" => refine Stopped.intro ?_
  trivial
section
variable {prog : Program} {w : World} {A : Around} {E : Value → Shared → Prop} {s : Shared} {g : Heap} {L : Addr} {m : Str → Option Value} {news : List (Addr × Obj)} {f : Value} {args : List Value} {P : Value → Heap → Prop}
theorem pure_call {Q : Value → Shared → Prop} (hc : wpAny (model prog w) A (call f args) (PureRes P s) E s) (F : Fr g L s.heap m) (N : News g L s.heap news)
    (h : ∀ v h' tk', P v h' → Fr g L h' m → News g L h' news → Q v { s with heap := h', toks := tk' }) : wpAny (model prog w) A (call f args) Q E s := by
  refine wpAny_mono hc (fun v s' hs => ?_) fun _ _ e => e
  obtain ⟨h', tk', rfl, st, hP⟩ := hs
  exact h v h' tk' hP (fr_up F st) (news_up N st)
end
theorem my_for_enumT {prog : Program} {w : World} {A : Around} {E' E : Value → Shared → Prop} {s : Shared} {env : Env} {g : Heap} {elts : List Expr} {k : Nat} {pos : Pos} {body orelse : List Stmt} {ax : Addr} {items : Array Value} {Q : Flow → Shared → Prop} {m : Str → Option Value} {news : List (Addr × Obj)}
    (J : Nat → (Str → Option Value) → List (Addr × Obj) → Prop) (hh : A.handled = none) (hl : s.heap.IsTuple ax items)
    (F : Fr g env.locals s.heap m) (N : News g env.locals s.heap news) (hL : env.locals ≠ ax) (hn : ∀ q ∈ news, q.1 ≠ ax) (hJ : J 0 m news)
    (turn : ∀ I it i x T t h tk m₁ news₁ extra, i < items.size → items[i]? = some x → h.IsTuple T #[.int i t, x] → J i m₁ news₁ → Fr g env.locals h m₁ → News g env.locals h (news₁ ++ extra) → (∀ p ∈ extra, ∀ q ∈ news₁, p.1 ≠ q.1) → (∀ q ∈ news₁, q.1 ∉ [I, it, ax]) →
      wpAny (model prog w) A (assign (.Tuple elts k pos) env (.ref T)) (fun _ s₂ => wpAny (model prog w) A (execs body env) (ForPost g env.locals [I, it, ax] s (J (i + 1)) extra Q) (fun _ _ => False) s₂) (fun _ _ => False) { s with heap := h, toks := tk })
    (done : ∀ h tk m₁ news₁, J items.size m₁ news₁ → Fr g env.locals h m₁ → News g env.locals h news₁ → wpAny (model prog w) A (execs orelse env) Q (fun _ _ => False) { s with heap := h, toks := tk }) :
    wpAny (model prog w) A (call (.type "enumerate") [.ref ax]) (fun xv s₁ => wpAny (model prog w) A (pyIter xv) (fun it s₂ => codeAny (model prog w) A (.forLoop (.Tuple elts k pos) it body orelse env) (fun r s' => match r with | .ok f => Q f s' | .error e => cameBackBy (model prog w) A env E e s') s₂) E' s₁) E' s := by
  refine ready_enumT (elts := elts) (k := k) (pos := pos) (items := items) hh hl fun I it St s₂ Rd => Rd.ok.self 0 _ _ _ Rd.st ?_
  obtain ⟨h₄, tk₄, rfl⟩ := Rd.same
  have c3 : ∀ {b : Addr}, b ∈ [I, it, ax] → b ∈ [I, it] ∨ b = ax := fun hb => by
    simp only [List.mem_cons, List.not_mem_nil, or_false] at hb ⊢
    rcases hb with a | a | a
    · exact .inl (.inl a)
    · exact .inl (.inr a)
    · exact .inr a
  refine my_forLoop (g := g) J Rd.ok Rd.st (fr_up F Rd.up) (news_up N Rd.up) (fun hb => (c3 hb).elim (Rd.offL F) hL) (Rd.offG F) (fun q hq hb => (c3 hb).elim (Rd.offN N q hq) (hn q hq)) hJ ?_ done
  rintro i v h tk m₁ news₁ extra hi ⟨Tp, vals, rfl, hTp, t, x, hx, rfl⟩ hJ₁ F₁ N₁ he hn₁ _
  exact for_base (turn I it i x Tp t h tk m₁ news₁ extra hi hx hTp hJ₁ F₁ N₁ (fun p hp q hq e => hn₁ q hq (e ▸ he p hp)) hn₁)
inductive EntIs (h : Heap) (v : Value) (e : Int × Str) : Prop
  | mk : ∀ a n t u, (v = .ref a ∧ h.get? a = some (tupO #[.int e.1 t, .str e.2 u] n)) → EntIs h v e
inductive TabIs (h : Heap) (v : Value) (es : List (Int × Str)) : Prop
  | mk : ∀ T its n, (v = .ref T ∧ h.get? T = some (tupO its n) ∧ All2 (EntIs h) its.toList es) → TabIs h v es
noncomputable def tabs : List (List (Int × Str)) := [
  [(40960, Str.ofString "l"), (49152, Str.ofString "s"), (32768, Str.ofString "-"), (24576, Str.ofString "b"), (16384, Str.ofString "d"), (8192, Str.ofString "c"), (4096, Str.ofString "p")],
  [(256, Str.ofString "r")], [(128, Str.ofString "w")], [(2112, Str.ofString "s"), (2048, Str.ofString "S"), (64, Str.ofString "x")],
  [(32, Str.ofString "r")], [(16, Str.ofString "w")], [(1032, Str.ofString "s"), (1024, Str.ofString "S"), (8, Str.ofString "x")],
  [(4, Str.ofString "r")], [(2, Str.ofString "w")], [(513, Str.ofString "t"), (512, Str.ofString "T"), (1, Str.ofString "x")]]
noncomputable def hit (mode : Int) (i : Nat) (b : Int) : Bool := if i = 0 then decide (Builtin.bitAnd mode 61440 = b) else decide (Builtin.bitAnd mode b = b)
noncomputable def pick (mode : Int) (i : Nat) (es : List (Int × Str)) : Str := match es.find? (fun e => hit mode i e.1) with | some e => e.2 | none => if i = 0 then Str.ofString "?" else Str.ofString "-"
noncomputable def fmL (mode : Int) (n : Nat) : List Str := (List.range n).map fun i => pick mode i (tabs.getD i [])
theorem fmL_succ (mode : Int) (n : Nat) : fmL mode (n + 1) = fmL mode n ++ [pick mode n (tabs.getD n [])] := by
  unfold fmL; rw [List.range_succ, List.map_append]; rfl
theorem find_at {α : Type} {f : α → Bool}  {l : List α} {j : Nat} {e : α} (h : l[j]? = some e) (hn : ∀ j', j' < j → ∀ x, l[j']? = some x → f x = false) (hf : f e = true) : l.find? f = some e := find_of_first (fun b hb => by
  obtain ⟨i, hi⟩ := List.mem_iff_getElem?.mp hb
  rw [List.getElem?_take] at hi
  split at hi
  · exact hn i ‹_› b hi
  · cases hi) h hf
theorem mem_app3 {α : Type} {a p : α} {e e' : List α} (h : p ∈ a :: e) : p ∈ a :: (e ++ e') := by
  rcases List.mem_cons.mp h with h | h
  · exact h ▸ .head _
  · exact .tail _ (List.mem_append_left _ h)
theorem find_none {α : Type} {f : α → Bool} {l : List α} (h : ∀ j' : Nat, ∀ x, l[j']? = some x → f x = false) : l.find? f = none := by
  rw [List.find?_eq_none]
  intro x hx
  obtain ⟨j, hj⟩ := List.getElem?_of_mem hx
  rw [h j x hj]; simp
theorem tabs_in {w : World} {g : Heap} (X : (hd.heap_39 w.params).In g) : ∃ its n, g.get? 104 = some (tupO its n) ∧ All2 (TabIs g) its.toList tabs := by
  refine ⟨_, _, X 104 _ (by k_is), ?_⟩
  have e : ∀ (a : Addr) (b : Int) (c : Str) (t u : Tok) (n : Nat), g.get? a = some (tupO #[.int b t, .str c u] n) → EntIs g (.ref a) (b, c) := fun a b c t u n h => ⟨a, n, t, u, rfl, h⟩
  have e3 : ∀ (T a b c : Addr) (ea eb ec : Int × Str) (n : Nat), g.get? T = some (tupO #[.ref a, .ref b, .ref c] n) → EntIs g (.ref a) ea → EntIs g (.ref b) eb → EntIs g (.ref c) ec → TabIs g (.ref T) [ea, eb, ec] :=
    fun T a b c ea eb ec n h ha hb hc => ⟨T, _, n, rfl, h, .cons ha (.cons hb (.cons hc .nil))⟩
  have e1 : ∀ (T a : Addr) (ea : Int × Str) (n : Nat), g.get? T = some (tupO #[.ref a] n) → EntIs g (.ref a) ea → TabIs g (.ref T) [ea] := fun T a ea n h ha => ⟨T, _, n, rfl, h, .cons ha .nil⟩
  refine .cons ⟨79, _, _, rfl, X 79 _ (by k_is), .cons (e 72 _ _ _ _ _ (X 72 _ (by k_is))) (.cons (e 73 _ _ _ _ _ (X 73 _ (by k_is))) (.cons (e 74 _ _ _ _ _ (X 74 _ (by k_is))) (.cons (e 75 _ _ _ _ _ (X 75 _ (by k_is))) (.cons (e 76 _ _ _ _ _ (X 76 _ (by k_is)))
    (.cons (e 77 _ _ _ _ _ (X 77 _ (by k_is))) (.cons (e 78 _ _ _ _ _ (X 78 _ (by k_is))) .nil))))))⟩ ?_
  refine .cons (e1 81 80 _ _ (X 81 _ (by k_is)) (e 80 _ _ _ _ _ (X 80 _ (by k_is)))) ?_
  refine .cons (e1 83 82 _ _ (X 83 _ (by k_is)) (e 82 _ _ _ _ _ (X 82 _ (by k_is)))) ?_
  refine .cons (e3 87 84 85 86 _ _ _ _ (X 87 _ (by k_is)) (e 84 _ _ _ _ _ (X 84 _ (by k_is))) (e 85 _ _ _ _ _ (X 85 _ (by k_is))) (e 86 _ _ _ _ _ (X 86 _ (by k_is)))) ?_
  refine .cons (e1 89 88 _ _ (X 89 _ (by k_is)) (e 88 _ _ _ _ _ (X 88 _ (by k_is)))) ?_
  refine .cons (e1 91 90 _ _ (X 91 _ (by k_is)) (e 90 _ _ _ _ _ (X 90 _ (by k_is)))) ?_
  refine .cons (e3 95 92 93 94 _ _ _ _ (X 95 _ (by k_is)) (e 92 _ _ _ _ _ (X 92 _ (by k_is))) (e 93 _ _ _ _ _ (X 93 _ (by k_is))) (e 94 _ _ _ _ _ (X 94 _ (by k_is)))) ?_
  refine .cons (e1 97 96 _ _ (X 97 _ (by k_is)) (e 96 _ _ _ _ _ (X 96 _ (by k_is)))) ?_
  refine .cons (e1 99 98 _ _ (X 99 _ (by k_is)) (e 98 _ _ _ _ _ (X 98 _ (by k_is)))) ?_
  refine .cons (e3 103 100 101 102 _ _ _ _ (X 103 _ (by k_is)) (e 100 _ _ _ _ _ (X 100 _ (by k_is))) (e 101 _ _ _ _ _ (X 101 _ (by k_is))) (e 102 _ _ _ _ _ (X 102 _ (by k_is)))) .nil
theorem lines_C4_2 : True := by
  k_with "call builtin:list.append" => (k_here; (with_unfolding_all refine' its_append ?zqk1 ?zqk2 ?zqkU ?zqk3 ?zqk5 ?_; (case zqk1 => k_asm); (case zqk2 => k_asm); (case zqkU => k_upd); (case zqk3 => k_asm); (case zqk5 => first | (first | lia | omega) | decide); k_whole); intro _ _ _ _; (try k_sweep))
  k_with "call builtin:str.join" => refine Stopped.intro ?_
  trivial

theorem tabs_one : ∀ es ∈ tabs, ∀ e ∈ es, e.2.length = 1 := by decide
theorem pick_one (mode : Int) (i : Nat) (es : List (Int × Str)) (h : ∀ e ∈ es, e.2.length = 1) : (pick mode i es).length = 1 := by
  unfold pick
  cases q : es.find? (fun e => hit mode i e.1) with
  | some e => exact h e (List.mem_of_find?_eq_some q)
  | none => by_cases hi : i = 0
            · rw [if_pos hi]; rfl
            · rw [if_neg hi]; rfl
theorem fmL_weight (mode : Int) : ((fmL mode 10).map (·.length)).sum + (fmL mode 10).length ≤ 1048576 := by
  have : ∀ n, ((fmL mode n).map (·.length)).sum = n ∧ (fmL mode n).length = n := by
    intro n
    induction n with
    | zero => exact ⟨rfl, rfl⟩
    | succ n ih =>
      rw [fmL_succ, List.map_append, List.sum_append, List.length_append, ih.1, ih.2]
      have hp := pick_one mode n (tabs.getD n []) (fun e he => by
        rw [List.getD_eq_getElem?_getD] at he
        cases q : tabs[n]? with
        | none => rw [q] at he; simp at he
        | some es => rw [q] at he; exact tabs_one es (List.mem_of_getElem? q) e he)
      refine ⟨?_, rfl⟩
      rw [List.map_cons, List.map_nil, List.sum_cons, List.sum_nil, hp, Nat.add_zero]
  have := this 10
  (first | lia | omega)
inductive FmJ (na : Addr) (mode : Int) (i : Nat) (m : Str → Option Value) (news : List (Addr × Obj)) : Prop
  | mk (vs : List Value) (cnt : Nat) (t : Tok) :
    (news = [(na, W.listOf vs.toArray cnt)]) →
    (StrsAre vs (fmL mode i)) →
    (m "perm" = some (.ref na)) →
    (m "mode" = some (.int mode t)) →
    FmJ na mode i m news
inductive FnJ (na : Addr) (vs : List Value) (cnt : Nat) (extra : List (Addr × Obj)) (mode : Int) (i : Nat) (es : List (Int × Str)) (j : Nat) (m : Str → Option Value) (news : List (Addr × Obj)) : Prop
  | mk (t u : Tok) :
    (news = (na, W.listOf vs.toArray cnt) :: extra) →
    (m "perm" = some (.ref na)) →
    (m "mode" = some (.int mode t)) →
    (m "index" = some (.int i u)) →
    (∀ j', j' < j → ∀ e, es[j']? = some e → hit mode i e.1 = false) →
    FnJ na vs cnt extra mode i es j m news
set_option maxHeartbeats 8000000 in
theorem fmode : ∀ (w : World) (hT : Heap) (A : Around) (s : Shared) (mode : Int) (t : Tok) (E : Value → Shared → Prop),
    A.depth + 15 < recursionLimit → A.units + 80 < cLine → A.handled = none → Ctx w hT s.heap → 
    wpAny (model PySem.Challenge.rw_un0012_01.row.prog w) A (call (.ref 111) [.int mode t]) (PureRes (fun v _ => ∃ t', v = .str (Txt.join (Str.ofString "") (fmL mode 10)) t') s) E s := by
  intro w hT A s mode t E hdp hun hh C
  obtain ⟨p, loose, mean, mg, mb, T⟩ := C.T
  k_dflt (refine' call_mine [] [("mode", .int mode t)] C.In (T.nolimit.keeps C.st) (by k_is) (by k_is) (by first | lia | omega) (by exact BindsTo.of_eq rfl) (by exact locs rfl) (by exact rfl) ?_ (by exact rfl) (by exact rfl) (by exact rfl) (by decide); k_whole)
  intro g L' h₁ tk₁ hgs hsg F N
  replace N := N [] (by intro p hp'; cases hp')
  have gst : hT.StaysIn g := fun b o e => hsg b o (C.st b o e) (by simp)
  have X' := C.X.keeps gst
  have T' := T.keeps gst
  obtain ⟨its, nT, h104, hTab⟩ := tabs_in X'
  try dsimp only
  k_steps
  show wpAny _ _ _ _ _ _
  refine wpAny_For ?_
  k_steps
  show wpAny _ _ _ _ _ _
  rename_i na h₂ _ h₃ tk₃ F₃ N₃
  have hL104 : L' ≠ 104 := fun e => absurd (Heap.lt_size h104) (Nat.not_lt.mpr (e ▸ F₃.above))
  refine my_for_enumT (items := its) (FmJ na mode) hh ⟨_, F₃.keep _ _ h104, rfl, nT, rfl⟩ F₃ N₃ hL104 (fun q hq e => by have := (N₃ q hq).2.2; rw [e, h104] at this; cases this) ⟨[], 0, _, rfl, .nil, rfl, rfl⟩ ?_ ?_
  · rintro I it i x Tp t₁ h₅ tk₅ m₁ news₁ extra hi hx hTp ⟨vs, cnt, t₂, rfl, hvs, e1, e2⟩ F₅ N₅ hex hI
    clear F₃ N₃
    replace F₅ := fr_map [("perm", .ref na), ("mode", .int mode t₂)] (by intro p hp; simp only [List.mem_cons, List.not_mem_nil, or_false] at hp; rcases hp with rfl | rfl <;> assumption) F₅
    clear e1 e2
    have hI' : na ∉ [I, it, 104] := hI _ (.head _)
    replace hex : ∀ p ∈ extra, p.1 ≠ na := fun p hp => hex p hp _ (.head _)
    simp only [List.cons_append, List.nil_append] at N₅
    have hTp' : IsTup h₅ Tp #[.int i t₁, x] := hTp
    have hi10 : i < tabs.length := by have := hTab.length; rw [← this]; exact hi
    obtain ⟨es, hes⟩ : ∃ es, tabs[i]? = some es := ⟨_, List.getElem?_eq_getElem hi10⟩
    obtain ⟨x', hx', Ti, tits, nTi, rfl, hTi, hents⟩ := hTab.get hes
    rw [show its.toList[i]? = its[i]? from by simp, hx] at hx'
    cases hx'
    refine unpackN_ F₅ N₅ hTp' hh rfl rfl fun h₆ F₆ N₆ => ?_
    try dsimp only
    k_steps
    show wpAny _ _ _ _ _ _
    refine wpAny_For ?_
    k_steps
    show wpAny _ _ _ _ _ _
    rename_i h₇ t₇ tk₇ h₈ tk₈ F₈ N₈
    have hesl : tits.toList.length = es.length := hents.length
    have hfl : (fmL mode i).length < 1000 := by unfold fmL; rw [List.length_map, List.length_range]; have : tabs.length = 10 := rfl; (first | lia | omega)
    have hnn : ∀ q ∈ (na, W.listOf vs.toArray cnt) :: extra, q.1 ≠ Ti := fun q hq e => by have := (N₈ q hq).2.2; rw [e, hTi] at this; cases this
    have finJ : ∀ (v : Str) (u : Tok) (h' : Heap) (tk' : Nat) (m' : Str → Option Value), v = pick mode i es → Fr g L' h' m' → News g L' h' ((na, W.listOf (vs ++ [Value.str v u]).toArray (cnt + 1)) :: extra) → m' "perm" = some (.ref na) → (∃ t, m' "mode" = some (.int mode t)) → StrsAre (vs ++ [Value.str v u]) (fmL mode i ++ [v]) →
        ∃ m' news', Fr g L' h' m' ∧ News g L' h' (news' ++ extra) ∧ (∀ q ∈ news', q.1 ∉ [I, it, 104]) ∧ FmJ na mode (i + 1) m' news' := by
      rintro v u h' tk' m' rfl F' N' e1 ⟨t, e2⟩ hA
      refine ⟨m', [_], F', N', fun q hq => by rw [List.mem_singleton] at hq; subst hq; exact hI', _, _, t, rfl, ?_, e1, e2⟩
      rw [fmL_succ, List.getD_eq_getElem?_getD, hes]
      exact hA
    refine my_for_tuple (items := tits) (FnJ na vs cnt extra mode i es) rfl hh ⟨_, F₈.keep _ _ hTi, rfl, nTi, rfl⟩ F₈ N₈ (fun e => absurd (Heap.lt_size hTi) (Nat.not_lt.mpr (e ▸ F₈.above))) hnn ⟨_, _, rfl, rfl, rfl, rfl, fun j hj => absurd hj (Nat.not_lt_zero _)⟩ ?_ ?_
    · rintro I₂ j v h₉ tk₉ m₂ news₂ extra₂ hj hv ⟨t₃, u₃, rfl, e1, e2, e3, hno⟩ F₉ N₉ hex₂ hI₂ _
      clear F₅ N₅ F₆ N₆ F₈ N₈
      replace F₉ := fr_map [("perm", .ref na), ("mode", .int mode t₃), ("index", .int i u₃)] (by intro p hp; simp only [List.mem_cons, List.not_mem_nil, or_false] at hp; rcases hp with rfl | rfl | rfl <;> assumption) F₉
      clear e1 e2 e3
      obtain ⟨e, he⟩ : ∃ e, es[j]? = some e := ⟨_, List.getElem?_eq_getElem (by rw [← hesl]; exact hj)⟩
      obtain ⟨v', hv', ea, en, et, eu, rfl, hea⟩ := hents.get he
      rw [show tits.toList[j]? = tits[j]? from by simp, hv] at hv'
      cases hv'
      have hea' : IsTup h₉ ea #[.int e.1 et, .str e.2 eu] := ⟨_, F₉.keep _ _ hea, rfl, en, rfl⟩
      replace hex₂ : ∀ p ∈ extra ++ extra₂, p.1 ≠ na := fun p hp => by
        rcases List.mem_append.mp hp with hp | hp
        · exact hex p hp
        · exact hex₂ p hp _ (.head _)
      simp only [List.cons_append] at N₉
      refine unpackN_ F₉ N₉ hea' hh rfl rfl fun h₆ F₆ N₆ => ?_
      obtain ⟨eb, ec⟩ := e
      try dsimp only
      k_steps
      · show wpAny _ _ _ _ _ _
        rename_i h₁₀ t₁₀ tk₁₀ F₁₀ N₁₀ hi0
        refine pure_call (fmt w hT _ _ mode t₃ _ (by simp only [depth_deeper]; (first | lia | omega)) (by simp only [units_deeper]; (first | lia | omega)) hh ⟨C.X, C.T, fun b o e => F₁₀.keep b o (gst b o e)⟩) F₁₀ N₁₀ ?_
        rintro _ h₁₁ tk₁₁ ⟨t₁₁, rfl⟩ F₁₁ N₁₁
        try dsimp only
        k_steps
        · rename_i hb h₁₂ F₁₂ N₁₂ hA₁₂
          have hp : pick mode i es = ec := by
            have hf : es.find? (fun e => hit mode i e.1) = some (eb, ec) := find_at he (fun j' hj' e he' => hno j' hj' e he') (by unfold hit; rw [if_pos (by (first | lia | omega))]; simpa using hb)
            unfold pick; rw [hf]
          obtain ⟨m', news', F', N', a, b⟩ := finJ ec t₁₀ h₁₂ 0 _ hp.symm F₁₂ (fun p hp => N₁₂ p (mem_app3 hp)) rfl ⟨_, rfl⟩ hA₁₂
          show wpAny _ _ _ _ _ _
          refine wpAny_execs_nil ?_
          exact ⟨_, _, m', news', rfl, F', N', a, b⟩
        · rename_i hb
          refine ⟨_, _, _, (na, W.listOf vs.toArray cnt) :: extra, rfl, F₁₁, N₁₁, ?_, ⟨_, _, rfl, rfl, rfl, rfl, fun j' hj' e' he' => ?_⟩⟩
          · exact fun q hq => hI₂ q hq
          · rcases Nat.lt_or_eq_of_le (Nat.le_of_lt_succ hj') with h | h
            · exact hno j' h e' he'
            · subst h
              rw [he] at he'
              cases he'
              unfold hit; rw [if_pos (by (first | lia | omega))]; simpa using hb
      · show wpAny _ _ _ _ _ _
        k_steps
        rename_i _ t₁₀ _ hi0 _ hb _ h₁₂ F₁₂ N₁₂ hA₁₂
        have hp : pick mode i es = ec := by
          have hf : es.find? (fun e => hit mode i e.1) = some (eb, ec) := find_at he (fun j' hj' e he' => hno j' hj' e he') (by unfold hit; rw [if_neg (by (first | lia | omega))]; simpa using hb)
          unfold pick; rw [hf]
        obtain ⟨m', news', F', N', a, b⟩ := finJ ec t₁₀ h₁₂ 0 _ hp.symm F₁₂ (fun p hp => N₁₂ p (mem_app3 hp)) rfl ⟨_, rfl⟩ hA₁₂
        exact ⟨_, _, m', news', rfl, F', N', a, b⟩
      · rename_i h₁₀ t₁₀ tk₁₀ F₁₀ N₁₀ hi0 _ hb
        refine ⟨_, _, _, (na, W.listOf vs.toArray cnt) :: extra, rfl, F₁₀, N₁₀, ?_, ⟨_, _, rfl, rfl, rfl, rfl, fun j' hj' e' he' => ?_⟩⟩
        · exact fun q hq => hI₂ q hq
        · rcases Nat.lt_or_eq_of_le (Nat.le_of_lt_succ hj') with h | h
          · exact hno j' h e' he'
          · subst h
            rw [he] at he'
            cases he'
            unfold hit; rw [if_neg (by (first | lia | omega))]; simpa using hb
    · rintro h₉ tk₉ m₂ news₂ ⟨t₃, u₃, rfl, e1, e2, e3, hno⟩ F₉ N₉
      clear F₅ N₅ F₆ N₆ F₈ N₈
      replace F₉ := fr_map [("perm", .ref na), ("mode", .int mode t₃), ("index", .int i u₃)] (by intro p hp; simp only [List.mem_cons, List.not_mem_nil, or_false] at hp; rcases hp with rfl | rfl | rfl <;> assumption) F₉
      clear e1 e2 e3
      have hf : es.find? (fun e => hit mode i e.1) = none := find_none fun j' x hx => by
        refine hno j' ?_ x hx
        have := (List.getElem?_eq_some_iff.mp hx).1
        have e : tits.size = es.length := by rw [← hesl]; simp
        (first | lia | omega)
      try dsimp only
      k_steps
      · rename_i hi0 _ h₁₂ F₁₂ N₁₂ hA₁₂
        have hp : pick mode i es = Str.ofString "?" := by unfold pick; rw [hf]; exact if_pos (by (first | lia | omega))
        obtain ⟨m', news', F', N', a, b⟩ := finJ _ _ h₁₂ 0 _ hp.symm F₁₂ N₁₂ rfl ⟨_, rfl⟩ hA₁₂
        exact ⟨_, _, m', news', rfl, F', N', a, b⟩
      · rename_i hi0 _ h₁₂ F₁₂ N₁₂ hA₁₂
        have hp : pick mode i es = Str.ofString "-" := by unfold pick; rw [hf]; exact if_neg (by (first | lia | omega))
        obtain ⟨m', news', F', N', a, b⟩ := finJ _ _ h₁₂ 0 _ hp.symm F₁₂ N₁₂ rfl ⟨_, rfl⟩ hA₁₂
        exact ⟨_, _, m', news', rfl, F', N', a, b⟩
  · rintro h₅ tk₅ m₁ news₁ ⟨vs, cnt, t₂, rfl, hvs, e1, e2⟩ F₅ N₅
    clear F₃ N₃
    replace F₅ := fr_map [("perm", .ref na), ("mode", .int mode t₂)] (by intro p hp; simp only [List.mem_cons, List.not_mem_nil, or_false] at hp; rcases hp with rfl | rfl <;> assumption) F₅
    clear e1 e2
    have hsz : its.size = 10 := by have := hTab.length; rw [Array.length_toList] at this; exact this
    rw [hsz] at hvs
    refine wpAny_execs_nil ?_
    try dsimp only
    k_steps
    show wpAny _ _ _ _ _ _
    refine join_listW (PySem.IsL.isList (N₅ _ (.head _)).1) hvs (by decide) (fmL_weight mode) fun t₇ k₇ => ?_
    exact ⟨_, _, rfl, fun b o e => F₅.keep b o (hsg b o e (by simp)), t₇, rfl⟩
end Mine
end
section
-- D1
open PySem PySem.W PyProof.Rows PySem.Calls PySem.Spec
namespace Mine
section
variable {prog : Program} {w : World} {A : Around} {E : Value → Shared → Prop} {s : Shared}
theorem next_item {it l : Addr} {i : Nat} {items : Array Value} {x : Value} {Q : Value → Shared → Prop} (hit : s.heap.IsListIter it l i) (hl : s.heap.IsList l items) (hx : items[i]? = some x)
    (hQ : ∀ h', h'.IsListIter it l (i + 1) → Heap.SameBut it s.heap h' → Q x { s with heap := h' }) :
    wpAny (model prog w) A (call (.builtin "next") [.ref it]) Q E s := by
  have ⟨o, ho, hc, hd⟩ := hit
  have ⟨_, hol, _, _, hdl⟩ := hl
  have not_end : items[i]? ≠ none := fun e => nomatch hx.symm.trans e
  refine call_next hit.typeIs slot_listiter_next (seq_step slot_listiter_next hit.typeIs entry_listiter_next (args_listiter_next _) (.inl rfl) ho hd hol hdl (fun e => absurd e not_end) (fun y hy h' o' only ho' hc' hd' => ⟨y, rfl, ?_⟩) fun e => absurd e not_end)
  cases hx.symm.trans hy
  exact hQ h' ⟨o', ho', hc'.trans hc, hd'⟩ only
theorem next_stop {it l : Addr} {i : Nat} {items : Array Value} {Q : Value → Shared → Prop} (hh : A.handled = none) (hit : s.heap.IsListIter it l i) (hl : s.heap.IsList l items) (hx : items[i]? = none)
    (hE : ∀ h' e oe vs a0, Heap.ExtBut it s.heap h' → h'.get? e = some oe → oe.cls = .type "StopIteration" → oe.data = .fields vs → vs[1]? = some .none → vs[0]? = some a0 → s.heap.get? e = none → E (.ref e) { s with heap := h' }) :
    wpAny (model prog w) A (call (.builtin "next") [.ref it]) Q E s := by
  have ⟨_, ho, _, hd⟩ := hit
  have ⟨_, hol, _, _, hdl⟩ := hl
  exact call_next hit.typeIs slot_listiter_next (seq_step slot_listiter_next hit.typeIs entry_listiter_next (args_listiter_next _) (.inl rfl) ho hd hol hdl (fun _ => hh) (fun _ hy => nomatch hx.symm.trans hy) fun _ => hE)

theorem call_mineE {K : Frag} {R E : Value → Shared → Prop} {name qual : Str} {params : Arguments} {body : List Stmt} {scope : Scope} {dV kV doc pm cdv ct oc : Value} {an od : Option Addr} {osl : Array (Option Value)} {f : Addr} {args : List Value} {binds : List (Str × Value)}
    (muts : List Addr) (ps : List (Str × Value)) (X : K.In s.heap) (hlim : s.heap.NoLimit)
    (ho : K.lookup f = some ⟨oc, od, .func (fnOf name qual params body scope dV kV doc pm an cdv ct), osl⟩) (hcd : codeIn K cdv qual = true) (hroom : A.depth < recursionLimit)
    (hbind : BindsTo s (fnOf name qual params body scope dV kV doc pm an cdv ct) ⟨args, []⟩ binds) (hloc : ∀ y ∈ binds, scope.names.lookup y.1 = some .local)
    (hps : binds.reverse = ps)
    (h : ∀ g L' h₁ tk, (∀ b o, g.get? b = some o → s.heap.get? b = some o ∧ b ∉ muts) → (∀ b o, s.heap.get? b = some o → b ∉ muts → g.get? b = some o) → s.heap.StaysIn h₁ → s.heap.get? L' = none →
      Fr g L' h₁ (fun y => ps.lookup y) → (∀ news : List (Addr × Obj), (∀ p ∈ news, s.heap.get? p.1 = some p.2 ∧ p.1 ∈ muts) → News g L' h₁ news) →
      wpAny (model prog w) (A.deeper (envOf qual scope L' f cdv)) (execs body (envOf qual scope L' f cdv))
        (fun fl s' => R (match fl with | .ret v => v | _ => .none) s') (fun e s' => wpAny (model prog w) (A.deeper (envOf qual scope L' f cdv)) (leaving (envOf qual scope L' f cdv) e) (fun _ s'' => E e s'') (fun e' s'' => E e' s'') s')
        { s with heap := h₁, toks := tk })
    (hco : scope.isCoroutine = false) (hgen : scope.isGenerator = false) (hk : scope.kind = .function)
    (hcell : ∀ x ∈ scope.names, x.2 ≠ .cell) : wpAny (model prog w) A (call (.ref f) args) R E s := by
  subst hps
  exact call_in X hlim ho hcd hroom hbind hloc hco hgen hk hcell fun h₁ tk ns up =>
    h _ _ h₁ tk (fun b o e => ⟨of_hideAll _ e, fun hm => nomatch (hideAll_none _ hm).symm.trans e⟩) (fun _ _ e hb => hideAll_get _ e hb) up (Heap.get?_none_of_le (Nat.le_refl _)) (ground_fr ns up) fun _ hn => ground_news up hn
end
end Mine
end
section
-- D2
open PySem PySem.W PyProof.Rows PySem.Calls PySem.Spec
namespace Mine
-- lines of the walk
theorem lines_D2_1 : True := by
  k_with_none
  k_with "execs nil" => (k_here; first | k_gentoks | (refine SeqQ.next ?_; k_gentoks) | refine wpAny_execs_nil ?_)
  k_with "execs cons" => (k_here; first | k_gentoks | (refine SeqQ.next ?_; k_gentoks) | refine execs_consS ?_)
  k_with "eval ListComp" => refine Stopped.intro ?_
  k_with "exec Assign cons ListComp" => refine Stopped.intro ?_
  k_with "exec While Compare cons nil" => refine Stopped.intro ?_
  k_with "exec While Name cons nil" => refine Stopped.intro ?_
  k_with "exec For" => refine Stopped.intro ?_
  k_with "exec For Name Name cons nil" => refine Stopped.intro ?_
  k_with "exec For Name Call cons nil" => refine Stopped.intro ?_
  k_with "exec For Name Call cons cons" => refine Stopped.intro ?_
  k_with "exec For Tuple Name cons nil" => refine Stopped.intro ?_
  k_with "exec For Tuple Call cons nil" => refine Stopped.intro ?_
  k_with "exec For Tuple Name cons cons" => refine Stopped.intro ?_
  k_with "pyIter ref" => refine Stopped.intro ?_
  k_with "call ref" => refine Stopped.intro ?_
  k_with "WhileStep2" => refine Stopped.intro ?_
  k_with "ForPost" => refine Stopped.intro ?_
  k_with "CEnd" => refine Stopped.intro ?_
  k_with "call type:range" => (k_here; (with_unfolding_all refine' range1 ?zqk1 ?zqk2 ?_; (case zqk1 => k_asm); (case zqk2 => k_asm); k_whole); intro _ _ _ _ _ _ _ _ _; (try k_sweep); (try dsimp only))
  k_with "storeName" => (k_here; (with_reducible show wpAny _ _ (storeName (compEnvC _ _ _ _) _ _) _ _ _); (with_unfolding_all refine' stE ?zqF ?zqN ?_ ?zqa ?zqb; (case zqF => k_asm); (case zqN => k_asm); (case zqa => rfl); (case zqb => rfl); k_whole); intro _ _ _ _; (try k_sweep); (try dsimp only))
  k_with "storeName" => (k_here; (first
    | (with_unfolding_all refine' st_int ?zqF ?zqN ?_ ?zqa ?zqb; (case zqF => k_asm); (case zqN => k_asm); (case zqa => rfl); (case zqb => rfl); k_whole; intro _ _ _ _ _)
    | (with_unfolding_all refine' st_str ?zqF ?zqN ?_ ?zqa ?zqb; (case zqF => k_asm); (case zqN => k_asm); (case zqa => rfl); (case zqb => rfl); k_whole; intro _ _ _ _ _)
    | (with_unfolding_all refine' st_any ?zqF ?zqN ?_ ?zqa ?zqb; (case zqF => k_asm); (case zqN => k_asm); (case zqa => rfl); (case zqb => rfl); k_whole; intro _ _ _ _)); (try k_sweep); (try dsimp only))
  k_with "eval Name" => (k_here; (with_reducible show wpAny _ _ (eval (Expr.Name _ _) (compEnvC _ _ _ _)) _ _ _); k_dflt (first
    | (refine' nE_L ?zqF ?zqv ?_ ?zqa ?zqb ?zqc; (case zqb => rfl); (case zqa => rfl); (case zqc => decide); (case zqF => k_asm); (case zqv => first | rfl | assumption); k_whole)
    | (refine' nE_CN ?zqN ?zqc ?zqm ?zqd ?_ ?zqa ?zqb ?zqe; (case zqb => rfl); (case zqa => rfl); (case zqe => decide); (case zqN => k_asm); (case zqc => rfl); (case zqm => k_mem); (case zqd => k_asm); k_whole)
    | (refine' nE_C ?zqF ?zqc ?zqm ?_ ?zqa ?zqb ?zqd; (case zqb => rfl); (case zqa => rfl); (case zqd => decide); (case zqF => k_asm); (case zqc => rfl); (case zqm => k_asm); k_whole)
    | (refine' nE_F ?zqF ?zqc ?zqm ?_ ?zqa ?zqb ?zqd ?zqe; (case zqb => rfl); (case zqa => rfl); (case zqd => decide); (case zqe => decide); (case zqF => k_asm); (case zqc => rfl); (case zqm => k_asm); k_whole)
    | (refine' nE_K ?zqF ?zqX ?zqT ?zqe ?_ ?zqa ?zqg ?zqb ?zqd; (case zqb => rfl); (case zqa => rfl); (case zqg => rfl); (case zqd => decide); (case zqF => k_asm); (case zqX => k_asm); (case zqT => k_asm); (case zqe => k_is); k_whole)
    | (refine' nE_B ?zqF ?zqX ?zqT ?zqe ?zqv ?zqn ?_ ?zqa ?zqg ?zqi ?zqb ?zqd; (case zqb => rfl); (case zqa => rfl); (case zqg => rfl); (case zqi => rfl); (case zqd => decide); (case zqF => k_asm); (case zqX => k_asm); (case zqT => k_asm); (case zqe => k_is); (case zqv => boot_fast); (case zqn => decide); k_whole)))
  k_with "binaryOp RShift int int" => (k_here; (with_reducible refine' shrN ?zqa ?_; (case zqa => (first | lia | omega)); k_whole); intro _ _; (try dsimp only))
  k_with "binaryOp RShift int int" => (k_here; (with_reducible refine shr1 ?_); intro _ _; (try dsimp only))
  k_with "binaryOp BitAnd int int" => (k_here; (with_reducible refine and1 ?_); intro _ _; (try dsimp only))
  k_with "call builtin:sum" => refine Stopped.intro ?_
  trivial
theorem lines_D2_2 : True := by
  k_with "call builtin:next" => refine Stopped.intro ?_
  k_with "exec While BinOp cons nil" => refine Stopped.intro ?_
  k_with "inplaceOp LShift int int" => refine Stopped.intro ?_
  k_with "inplaceOp BitOr int int" => refine Stopped.intro ?_
  trivial
section
variable {prog : Program} {w : World} {A : Around} {E : Value → Shared → Prop} {s : Shared}
theorem ilsh6 {a : Int} {t u : Tok} {Q : Value → Shared → Prop} (h0 : 0 ≤ a) (h1 : a < 100000) (h : ∀ t' tk', Q (.int (a * 64) t') { s with toks := tk' }) : wpAny (model prog w) A (inplaceOp .LShift (.int a t) (.int 6 u)) Q E s :=
  ilshift_int_small (by decide) (by decide) (by (first | lia | omega)) (h _ _)
theorem iorI {a b : Int} {t u : Tok} {Q : Value → Shared → Prop} (h : ∀ t' tk', Q (.int (Builtin.bitOr a b) t') { s with toks := tk' }) : wpAny (model prog w) A (inplaceOp .BitOr (.int a t) (.int b u)) Q E s := ior_int (h _ _)
end
noncomputable def ItO (o : Obj) (l : Addr) (i : Nat) : Prop := o.cls = .type "list_iterator" ∧ o.data = .fields #[.ref l, .int i 0]
section
variable {prog : Program} {w : World} {A : Around} {E : Value → Shared → Prop} {s : Shared} {g : Heap} {L it l : Addr} {m : Str → Option Value} {rest : List (Addr × Obj)} {o : Obj} {i : Nat} {items : Array Value} {x : Value}
theorem ItO.at {h : Heap} (a : ItO o l i) (ho : h.get? it = some o) : h.IsListIter it l i := ⟨o, ho, a.1, a.2⟩
theorem nextN {Q : Value → Shared → Prop} (F : Fr g L s.heap m) (N : News g L s.heap ((it, o) :: rest)) (hn : ∀ p ∈ rest, p.1 ≠ it) (hi : ItO o l i) (hl : s.heap.IsList l items) (hx : items[i]? = some x)
    (h : ∀ h' o', ItO o' l (i + 1) → Fr g L h' m → News g L h' ((it, o') :: rest) → (∀ b p, b ≠ it → s.heap.get? b = some p → h'.get? b = some p) → Q x { s with heap := h' }) :
    wpAny (model prog w) A (call (.builtin "next") [.ref it]) Q E s := by
  have z := N (it, o) (.head _)
  refine next_item (hi.at z.1) hl hx fun h' hit hs => ?_
  obtain ⟨o', ho', hc', hd'⟩ := hit
  have k : ∀ b p, b ≠ it → s.heap.get? b = some p → h'.get? b = some p := fun b p hb e => hs.extBut b p hb e
  refine h h' o' ⟨hc', hd'⟩ (F.change hs z.2.1 z.2.2) (fun p hp => ?_) k
  rcases List.mem_cons.mp hp with rfl | hp
  · exact ⟨ho', z.2⟩
  · exact ⟨k _ _ (hn p hp) (N p (.tail _ hp)).1, (N p (.tail _ hp)).2⟩
end
theorem va_1 {kind : Int} (h0 : 0 ≤ kind) (h1 : kind < 16) : Builtin.bitAnd (64 + kind) 63 = kind := by
  have key : ∀ n : _root_.Fin 16, Builtin.bitAnd (64 + (n.val : Int)) 63 = n.val := by decide +kernel
  obtain ⟨n, rfl⟩ := Int.eq_ofNat_of_zero_le h0
  exact key ⟨n, by (first | lia | omega)⟩
theorem va_2 {kind : Int} (h0 : 0 ≤ kind) (h1 : kind < 16) : Builtin.bitAnd (64 + kind) 64 = 64 := by
  have key : ∀ n : _root_.Fin 16, Builtin.bitAnd (64 + (n.val : Int)) 64 = 64 := by decide +kernel
  obtain ⟨n, rfl⟩ := Int.eq_ofNat_of_zero_le h0
  exact key ⟨n, by (first | lia | omega)⟩
theorem va_3 {rights : Int} (h0 : 0 ≤ rights) (h1 : rights < 32) : Builtin.bitAnd rights 63 = rights := by
  have key : ∀ n : _root_.Fin 32, Builtin.bitAnd (n.val : Int) 63 = n.val := by decide +kernel
  obtain ⟨n, rfl⟩ := Int.eq_ofNat_of_zero_le h0
  exact key ⟨n, by (first | lia | omega)⟩
theorem va_4 {rights : Int} (h0 : 0 ≤ rights) (h1 : rights < 32) : Builtin.bitAnd rights 64 = 0 := by
  have key : ∀ n : _root_.Fin 32, Builtin.bitAnd (n.val : Int) 64 = 0 := by decide +kernel
  obtain ⟨n, rfl⟩ := Int.eq_ofNat_of_zero_le h0
  exact key ⟨n, by (first | lia | omega)⟩
theorem va_5 {kind : Int} (h0 : 0 ≤ kind) (h1 : kind < 16) : Builtin.bitOr (kind * 64) 0 = kind * 64 := by
  have key : ∀ n : _root_.Fin 16, Builtin.bitOr ((n.val : Int) * 64) 0 = (n.val : Int) * 64 := by decide +kernel
  obtain ⟨n, rfl⟩ := Int.eq_ofNat_of_zero_le h0
  exact key ⟨n, by (first | lia | omega)⟩
theorem va_6 {kind rights : Int} (h0 : 0 ≤ kind) (h1 : kind < 16) (r0 : 0 ≤ rights) (r1 : rights < 32) : Builtin.bitOr (kind * 4096) rights = kind * 4096 + rights := by
  have key : ∀ n : _root_.Fin 16, ∀ r : _root_.Fin 32, Builtin.bitOr ((n.val : Int) * 4096) (r.val : Int) = (n.val : Int) * 4096 + r.val := by decide +kernel
  obtain ⟨n, rfl⟩ := Int.eq_ofNat_of_zero_le h0
  obtain ⟨r, rfl⟩ := Int.eq_ofNat_of_zero_le r0
  exact key ⟨n, by (first | lia | omega)⟩ ⟨r, by (first | lia | omega)⟩
inductive VarPost (it l : Addr) (i : Nat) (val : Int) (s : Shared) (v : Value) (s' : Shared) : Prop
  | mk : ∀ h' tk o t, (v = .int val t ∧ s' = { s with heap := h', toks := tk } ∧ Stays [it] s.heap h' ∧ h'.get? it = some o ∧ ItO o l (i + 3)) → VarPost it l i val s v s'
inductive VaJ (it l : Addr) (i : Nat) (kind rights : Int) (n : Nat) (m : Str → Option Value) (news : List (Addr × Obj)) : Prop
  | mk o b v t u :
    (news = [(it, o)]) →
    (m "iterator" = some (.ref it)) →
    (m "b" = some (.int b t)) →
    (m "val" = some (.int v u)) →
    (((n = 2 ∧ b = 64 + kind ∧ kind = v ∧ ItO o l (i + 1)) ∨ (n = 1 ∧ b = 64 ∧ v = kind * 64 ∧ ItO o l (i + 2)) ∨ (n = 0 ∧ rights = b ∧ v = kind * 4096 + rights ∧ ItO o l (i + 3)))) →
    VaJ it l i kind rights n m news
set_option maxHeartbeats 8000000 in
theorem pvarint : ∀ (w : World) (hT : Heap) (A : Around) (s : Shared) (it l : Addr) (i : Nat) (items : Array Value) (o : Obj) (kind rights : Int) (t0 t1 t2 : Tok) (E : Value → Shared → Prop),
    A.depth + 5 < recursionLimit → A.units + 40 < cLine → A.handled = none → Ctx w hT s.heap → hT.get? it = none → s.heap.get? it = some o → ItO o l i → l ≠ it → s.heap.IsList l items →
    items[i]? = some (.int (64 + kind) t0) → items[i + 1]? = some (.int 64 t1) → items[i + 2]? = some (.int rights t2) → 0 ≤ kind → kind < 16 → 0 ≤ rights → rights < 32 →
    wpAny (model PySem.Challenge.rw_un0012_01.row.prog w) A (call (.ref 57) [.ref it]) (VarPost it l i (kind * 4096 + rights) s) E s := by
  intro w hT A s it l i items o kind rights t0 t1 t2 E hdp hun hh C hit ho hO hlit hl x0 x1 x2 k0 k1 r0 r1
  obtain ⟨p, loose, mean, mg, mb, T⟩ := C.T
  k_dflt (refine' call_mine [it] [("iterator", .ref it)] C.In (T.nolimit.keeps C.st) (by k_is) (by k_is) (by first | lia | omega) (by exact BindsTo.of_eq rfl) (by exact locs rfl) (by exact rfl) ?_ (by exact rfl) (by exact rfl) (by exact rfl) (by decide); k_whole)
  intro g L' h₁ tk₁ hgs hsg F N
  replace N := N [(it, o)] (by intro p hp'; rw [List.mem_singleton] at hp'; subst hp'; exact ⟨ho, by simp⟩)
  have gst : hT.StaysIn g := fun b o e => hsg b o (C.st b o e) (fun hm => by rw [List.mem_singleton] at hm; subst hm; rw [hit] at e; cases e)
  have X' := C.X.keeps gst
  have T' := T.keeps gst
  have hlg : g.IsList l items := by obtain ⟨ol, hol, r⟩ := hl; exact ⟨ol, hsg _ _ hol (by simp [hlit]), r⟩
  try dsimp only
  k_steps
  show wpAny _ _ _ _ _ _
  refine nextN F N (by simp) hO (hlg.at fun o e => F.keep _ o e) x0 fun h₂ o₂ hO₂ F₂ N₂ _ => ?_
  clear F N
  try dsimp only
  k_steps
  show wpAny _ _ _ _ _ _
  rename_i h₃ t₃ tk₃ h₄ t₄ tk₄ F₄ N₄
  rw [va_1 k0 k1] at F₄
  refine While_inv2 (VaJ it l i kind rights) F₄ N₄ ?_ ?_ PassesOwn.never (n₀ := 2)
  · exact ⟨_, _, _, _, _, rfl, rfl, rfl, rfl, .inl ⟨rfl, rfl, rfl, hO₂⟩⟩
  · rintro n m₁ news₁ h₅ tk₅ F₅ N₅ ⟨o₅, b, v, t₅, u₅, rfl, e1, e2, e3, hJ⟩
    clear F₄ N₄
    replace F₅ := fr_map [("iterator", .ref it), ("b", .int b t₅), ("val", .int v u₅)] (by intro p hp; simp only [List.mem_cons, List.not_mem_nil, or_false] at hp; rcases hp with rfl | rfl | rfl <;> assumption) F₅
    clear e1 e2 e3
    rcases hJ with ⟨rfl, rfl, rfl, hO₅⟩ | ⟨rfl, rfl, rfl, hO₅⟩ | ⟨rfl, rfl, rfl, hO₅⟩
    · k_steps
      · show wpAny _ _ _ _ _ _
        refine ilsh6 (by (first | lia | omega)) (by (first | lia | omega)) fun t₁₀ tk₁₀ => ?_
        try dsimp only
        k_steps
        show wpAny _ _ _ _ _ _
        rename_i F₆ N₆
        refine nextN F₆ N₆ (by simp) hO₅ (hlg.at fun o e => F₆.keep _ o e) x1 fun h₇ o₇ hO₇ F₇ N₇ _ => ?_
        clear F₆ N₆
        try dsimp only
        k_steps
        show wpAny _ _ _ _ _ _
        refine iorI fun t₁₁ tk₁₁ => ?_
        rw [show Builtin.bitAnd 64 63 = 0 from by decide, va_5 k0 k1]
        try dsimp only
        k_steps
        rename_i h₈ t₈ tk₈ F₈ N₈
        exact ⟨h₈, tk₈, _, _, 1, rfl, F₈, N₈, by (first | lia | omega), ⟨_, _, _, _, _, rfl, rfl, rfl, rfl, .inr (.inl ⟨rfl, rfl, rfl, hO₇⟩)⟩⟩
      · rename_i hz
        rw [va_2 k0 k1] at hz
        exact absurd hz (by decide)
    · k_steps
      · show wpAny _ _ _ _ _ _
        refine ilsh6 (by (first | lia | omega)) (by (first | lia | omega)) fun t₁₀ tk₁₀ => ?_
        try dsimp only
        k_steps
        show wpAny _ _ _ _ _ _
        rename_i F₆ N₆
        refine nextN F₆ N₆ (by simp) hO₅ (hlg.at fun o e => F₆.keep _ o e) x2 fun h₇ o₇ hO₇ F₇ N₇ _ => ?_
        clear F₆ N₆
        try dsimp only
        k_steps
        show wpAny _ _ _ _ _ _
        refine iorI fun t₁₁ tk₁₁ => ?_
        rw [va_3 r0 r1, show kind * 64 * 64 = kind * 4096 from by (first | lia | omega), va_6 k0 k1 r0 r1]
        try dsimp only
        k_steps
        rename_i h₈ t₈ tk₈ F₈ N₈
        exact ⟨h₈, tk₈, _, _, 0, rfl, F₈, N₈, by (first | lia | omega), ⟨_, _, _, _, _, rfl, rfl, rfl, rfl, .inr (.inr ⟨rfl, rfl, rfl, hO₇⟩)⟩⟩
    · k_steps
      · rename_i hz
        rw [va_4 r0 r1] at hz
        exact absurd rfl hz
      · exact ⟨_, _, o₅, u₅, rfl, rfl, fun b o hb e => F₅.keep b o (hsg b o e hb), (N₅ _ (.head _)).1, hO₅⟩
end Mine
end
section
-- D3
open PySem PySem.W PyProof.Rows PySem.Calls PySem.Spec
namespace Mine
-- lines of the walk
theorem lines_D3_1 : True := by
  k_with_none
  k_with "execs nil" => (k_here; first | k_gentoks | (refine SeqQ.next ?_; k_gentoks) | refine wpAny_execs_nil ?_)
  k_with "execs cons" => (k_here; first | k_gentoks | (refine SeqQ.next ?_; k_gentoks) | refine execs_consS ?_)
  k_with "eval ListComp" => refine Stopped.intro ?_
  k_with "exec Assign cons ListComp" => refine Stopped.intro ?_
  k_with "exec While Compare cons nil" => refine Stopped.intro ?_
  k_with "exec While Name cons nil" => refine Stopped.intro ?_
  k_with "exec For" => refine Stopped.intro ?_
  k_with "exec For Name Name cons nil" => refine Stopped.intro ?_
  k_with "exec For Name Call cons nil" => refine Stopped.intro ?_
  k_with "exec For Name Call cons cons" => refine Stopped.intro ?_
  k_with "exec For Tuple Name cons nil" => refine Stopped.intro ?_
  k_with "exec For Tuple Call cons nil" => refine Stopped.intro ?_
  k_with "exec For Tuple Name cons cons" => refine Stopped.intro ?_
  k_with "pyIter ref" => refine Stopped.intro ?_
  k_with "call ref" => refine Stopped.intro ?_
  k_with "WhileStep2" => refine Stopped.intro ?_
  k_with "ForPost" => refine Stopped.intro ?_
  k_with "CEnd" => refine Stopped.intro ?_
  k_with "call type:range" => (k_here; (with_unfolding_all refine' range1 ?zqk1 ?zqk2 ?_; (case zqk1 => k_asm); (case zqk2 => k_asm); k_whole); intro _ _ _ _ _ _ _ _ _; (try k_sweep); (try dsimp only))
  k_with "storeName" => (k_here; (with_reducible show wpAny _ _ (storeName (compEnvC _ _ _ _) _ _) _ _ _); (with_unfolding_all refine' stE ?zqF ?zqN ?_ ?zqa ?zqb; (case zqF => k_asm); (case zqN => k_asm); (case zqa => rfl); (case zqb => rfl); k_whole); intro _ _ _ _; (try k_sweep); (try dsimp only))
  k_with "storeName" => (k_here; (first
    | (with_unfolding_all refine' st_int ?zqF ?zqN ?_ ?zqa ?zqb; (case zqF => k_asm); (case zqN => k_asm); (case zqa => rfl); (case zqb => rfl); k_whole; intro _ _ _ _ _)
    | (with_unfolding_all refine' st_str ?zqF ?zqN ?_ ?zqa ?zqb; (case zqF => k_asm); (case zqN => k_asm); (case zqa => rfl); (case zqb => rfl); k_whole; intro _ _ _ _ _)
    | (with_unfolding_all refine' st_any ?zqF ?zqN ?_ ?zqa ?zqb; (case zqF => k_asm); (case zqN => k_asm); (case zqa => rfl); (case zqb => rfl); k_whole; intro _ _ _ _)); (try k_sweep); (try dsimp only))
  k_with "eval Name" => (k_here; (with_reducible show wpAny _ _ (eval (Expr.Name _ _) (compEnvC _ _ _ _)) _ _ _); k_dflt (first
    | (refine' nE_L ?zqF ?zqv ?_ ?zqa ?zqb ?zqc; (case zqb => rfl); (case zqa => rfl); (case zqc => decide); (case zqF => k_asm); (case zqv => first | rfl | assumption); k_whole)
    | (refine' nE_CN ?zqN ?zqc ?zqm ?zqd ?_ ?zqa ?zqb ?zqe; (case zqb => rfl); (case zqa => rfl); (case zqe => decide); (case zqN => k_asm); (case zqc => rfl); (case zqm => k_mem); (case zqd => k_asm); k_whole)
    | (refine' nE_C ?zqF ?zqc ?zqm ?_ ?zqa ?zqb ?zqd; (case zqb => rfl); (case zqa => rfl); (case zqd => decide); (case zqF => k_asm); (case zqc => rfl); (case zqm => k_asm); k_whole)
    | (refine' nE_F ?zqF ?zqc ?zqm ?_ ?zqa ?zqb ?zqd ?zqe; (case zqb => rfl); (case zqa => rfl); (case zqd => decide); (case zqe => decide); (case zqF => k_asm); (case zqc => rfl); (case zqm => k_asm); k_whole)
    | (refine' nE_K ?zqF ?zqX ?zqT ?zqe ?_ ?zqa ?zqg ?zqb ?zqd; (case zqb => rfl); (case zqa => rfl); (case zqg => rfl); (case zqd => decide); (case zqF => k_asm); (case zqX => k_asm); (case zqT => k_asm); (case zqe => k_is); k_whole)
    | (refine' nE_B ?zqF ?zqX ?zqT ?zqe ?zqv ?zqn ?_ ?zqa ?zqg ?zqi ?zqb ?zqd; (case zqb => rfl); (case zqa => rfl); (case zqg => rfl); (case zqi => rfl); (case zqd => decide); (case zqF => k_asm); (case zqX => k_asm); (case zqT => k_asm); (case zqe => k_is); (case zqv => boot_fast); (case zqn => decide); k_whole)))
  k_with "binaryOp RShift int int" => (k_here; (with_reducible refine' shrN ?zqa ?_; (case zqa => (first | lia | omega)); k_whole); intro _ _; (try dsimp only))
  k_with "binaryOp RShift int int" => (k_here; (with_reducible refine shr1 ?_); intro _ _; (try dsimp only))
  k_with "binaryOp BitAnd int int" => (k_here; (with_reducible refine and1 ?_); intro _ _; (try dsimp only))
  k_with "call builtin:sum" => refine Stopped.intro ?_
  trivial
theorem lines_D3_2 : True := by
  k_with "call builtin:next" => refine Stopped.intro ?_
  k_with "call builtin:iter" => refine Stopped.intro ?_
  k_with "leaving ref" => refine Stopped.intro ?_
  k_with "noteFrame ref" => refine Stopped.intro ?_
  trivial
noncomputable def frs (l : List Env) : List Addr := l.filterMap (·.frame)
section
variable {prog : Program} {w : World} {A : Around} {E : Value → Shared → Prop} {s : Shared}
theorem iter_list {ax : Addr} {items : Array Value} {Q : Value → Shared → Prop} (hl : s.heap.IsList ax items)
    (h : Q (.ref s.heap.objs.size) { s with heap := s.heap.push { cls := .type "list_iterator", data := .fields #[.ref ax, .int 0 0] } }) :
    wpAny (model prog w) A (call (.builtin "iter") [.ref ax]) Q E s := call_iter (wpAny_pyIter_list hl h)
end
theorem sub_stop_base : isSubtype (.type "StopIteration") (.type "BaseException") = pure true := by rw [isSubtype_type]; kernel_rfl
theorem sub_stop_stop : isSubtype (.type "StopIteration") (.type "StopIteration") = pure true := by rw [isSubtype_type]; kernel_rfl
theorem not_tuple_stop : isSubtype (.type ((Manifest.find? "StopIteration").elim "type" fun y => y.metatype)) (.type "tuple") = pure false := by rw [isSubtype_type]; kernel_rfl

set_option maxHeartbeats 8000000 in
theorem pvstop : ∀ (w : World) (hT : Heap) (A : Around) (s : Shared) (it l : Addr) (items : Array Value) (base : Heap) (outer : List Env) (Q E : Value → Shared → Prop),
    A.depth + 5 < recursionLimit → A.units + 40 < cLine → A.handled = none → Ctx w hT s.heap → A.frames = some outer → s.heap.FunFrames base outer → base.StaysIn s.heap → base.get? it = none →
    s.heap.IsListIter it l items.size → s.heap.IsList l items →
    (∀ h' tk e a0, Heap.FlyingW base outer e (.type "StopIteration") a0 h' → s.heap.UpToSlots h' → E (.ref e) { s with heap := h', toks := tk }) →
    wpAny (model PySem.Challenge.rw_un0012_01.row.prog w) A (call (.ref 57) [.ref it]) Q E s := by
  intro w hT A s it l items base outer Q E hdp hun hh C hfr hFF hbs hbi hit hl hE
  obtain ⟨p, loose, mean, mg, mb, T⟩ := C.T
  k_dflt (refine' call_mineE [] [("iterator", .ref it)] C.In (T.nolimit.keeps C.st) (by k_is) (by k_is) (by first | lia | omega) (by exact BindsTo.of_eq rfl) (by exact locs rfl) (by exact rfl) ?_ (by exact rfl) (by exact rfl) (by exact rfl) (by decide); k_whole)
  intro g L' h₁ tk₁ hgs hsg hst hL' F N
  replace N := N [] (by intro p hp'; cases hp')
  have gst : hT.StaysIn g := fun b o e => hsg b o (C.st b o e) (by simp)
  have X' := C.X.keeps gst
  have T' := T.keeps gst
  try dsimp only
  (try k_fold); (try k_fold); k_steps
  show wpAny _ _ _ _ _ _
  have hit₁ : h₁.IsListIter it l items.size := by obtain ⟨o, ho, r⟩ := hit; exact ⟨o, hst _ _ ho, r⟩
  have hl₁ : h₁.IsList l items := hl.at fun o e => hst _ _ e
  refine next_stop hh hit₁ hl₁ (by simp) fun h₂ e oe vs a0 hx he hcls hdt hv1 hv0 hen => ?_
  have hbe : base.get? e = none := by
    cases q : base.get? e with
    | none => rfl
    | some o => have := hst _ _ (hbs _ _ q); rw [show ({ s with heap := h₁, toks := tk₁ } : Shared).heap.get? e = h₁.get? e from rfl] at hen; rw [hen] at this; cases this
  have nit : ∀ b o, h₁.get? b = some o → (∀ vs, o.data ≠ .fields vs) → b ≠ it := fun b o e' hd q => by
    obtain ⟨oi, hoi, _, hdi⟩ := hit₁
    rw [q, hoi] at e'; cases e'; exact hd _ hdi
  have hFF₁ : h₁.FunFrames base outer := hFF.of_keeps fun b o e' _ => ⟨o, hst _ _ e', rfl⟩
  have hbs₂ : base.StaysIn h₂ := fun b o e' => hx _ _ (fun q => by rw [q, hbi] at e'; cases e') (hst _ _ (hbs _ _ e'))
  refine wpAny_leaving_firstW (base := base) (Around.frames_deeper hfr) ?FF rfl he hbs₂ hbe hdt hv1 hv0 fun h₃ hL => ?_
  case FF =>
      refine Heap.FunFrames.of_keeps (h := h₁) (fun b o e' hd => ⟨o, hx _ _ (nit b o e' hd) e', rfl⟩) ⟨(fun q => by cases q), ⟨L', ?_⟩, hFF₁⟩
      obtain ⟨oL, es, ep, hoL, hdL, _⟩ := F.ns
      refine ⟨oL, rfl, ?_, hoL, fun vs q => by rw [hdL] at q; cases q⟩
      cases q : base.get? L' with
      | none => rfl
      | some o => have := hbs _ _ q; rw [hL'] at this; cases this
  obtain ⟨k1, ⟨_, _, k2⟩, k3, k4⟩ := hL
  rw [hcls] at k3
  refine hE h₃ _ e a0 ⟨k1, hbe, k2, k3⟩ fun b o e' hd => ?_
  exact k4 b o (hx _ _ (nit b o (hst _ _ e') hd) (hst _ _ e')) hd

theorem iterN {prog : Program} {w : World} {A : Around} {E : Value → Shared → Prop} {s : Shared} {g : Heap} {L ax : Addr} {m : Str → Option Value} {news : List (Addr × Obj)} {items : Array Value} {Q : Value → Shared → Prop} (F : Fr g L s.heap m) (N : News g L s.heap news) (hl : s.heap.IsList ax items)
    (h : ∀ (I : Addr) h' o, ItO o ax 0 → Fr g L h' m → News g L h' ((I, o) :: news) → (∀ p ∈ news, p.1 < I) → Q (.ref I) { s with heap := h' }) :
    wpAny (model prog w) A (call (.builtin "iter") [.ref ax]) Q E s :=
  iter_list hl (h _ _ _ ⟨rfl, rfl⟩ (F.push _) (News.push F N _ rfl) fun q hq => Heap.lt_size (N q hq).1)
noncomputable def Octs (items : Array Value) (nums : List (Int × Int)) : Prop := items.size = 3 * nums.length ∧ ∀ (j : Nat) (e : Int × Int), nums[j]? = some e → (0 : Int) ≤ e.1 ∧ e.1 < (16 : Int) ∧ (0 : Int) ≤ e.2 ∧ e.2 < (32 : Int) ∧ ∃ t0 t1 t2, items[3 * j]? = some (.int (64 + e.1) t0) ∧ items[3 * j + 1]? = some (.int 64 t1) ∧ items[3 * j + 2]? = some (.int e.2 t2)
noncomputable def mode (e : Int × Int) : Int := e.1 * 4096 + e.2
theorem ints_snoc {y : Int} {t : Tok} : ∀ {vs : List Value} {xs : List Int}, IntsAre vs xs → IntsAre (vs ++ [Value.int y t]) (xs ++ [y])
  | _, _, .nil => .cons y t .nil
  | _, _, .cons z u r => .cons z u (ints_snoc r)
theorem ints_len {vs : List Value} {xs : List Int} (h : IntsAre vs xs) : vs.length = xs.length := h.length
section
variable {prog : Program} {w : World} {A : Around} {E : Value → Shared → Prop} {s : Shared} {g : Heap} {L na : Addr} {m : Str → Option Value} {news news' : List (Addr × Obj)} {vs : List Value} {xs : List Int} {cnt : Nat}
theorem iti_append {y : Int} {t : Tok} {Q : Value → Shared → Prop} (F : Fr g L s.heap m) (N : News g L s.heap news) (U : Upd na (W.listOf vs.toArray cnt) (W.listOf (vs ++ [Value.int y t]).toArray (cnt + 1)) news news') (ha : IntsAre vs xs) (hf : xs.length < 1000)
    (h : ∀ h', Fr g L h' m → News g L h' news' → IntsAre (vs ++ [Value.int y t]) (xs ++ [y]) → Q .none { s with heap := h' }) : wpAny (model prog w) A (call (.builtin "list.append") [.ref na, .int y t]) Q E s := by
  have hl := ints_len ha
  refine append_K (its := vs.toArray) F N (by simpa using U) (fun h' F' N' => h h' F' N' (ints_snoc ha)) ?_
  rw [List.size_toArray, sizeLine_eq]; (first | lia | omega)
end
theorem back_at {g h h' : Heap} {L hp : Addr} {m : Str → Option Value} {o o' : Obj} {pre post : List (Addr × Obj)} (F : Fr g L h m) (N : News g L h (pre ++ (hp, o) :: post)) (hpre : ∀ p ∈ pre, p.1 ≠ hp) (hpost : ∀ p ∈ post, p.1 ≠ hp) (st : Stays [hp] h h') (ho : h'.get? hp = some o') :
    Fr g L h' m ∧ News g L h' (pre ++ (hp, o') :: post) := by
  have hn := N _ (List.mem_append_right _ (.head _))
  have hs : ∀ b o, g.get? b = some o → b ∉ [hp] := fun b o e hm => by
    rw [List.mem_singleton] at hm; subst hm; rw [hn.2.2] at e; cases e
  refine ⟨⟨?_, fun b o e => st b o (hs b o e) (F.keep b o e), F.above⟩, fun p hp' => ?_⟩
  · obtain ⟨oL, es, ep, hL, r⟩ := F.ns
    exact ⟨oL, es, ep, st L oL (fun hm => hn.2.1 (List.mem_singleton.mp hm).symm) hL, r⟩
  · rcases List.mem_append.mp hp' with hp' | hp'
    · have := N p (List.mem_append_left _ hp')
      exact ⟨st _ _ (by simpa using hpre p hp') this.1, this.2⟩
    · rcases List.mem_cons.mp hp' with rfl | hp'
      · exact ⟨ho, hn.2⟩
      · have := N p (List.mem_append_right _ (.tail _ hp'))
        exact ⟨st _ _ (by simpa using hpost p hp') this.1, this.2⟩
theorem lines_D3_3 : True := by
  k_with "call builtin:list.append" => (k_here; (with_unfolding_all refine' iti_append ?zqk1 ?zqk2 ?zqkU ?zqk3 ?zqk5 ?_; (case zqk1 => k_asm); (case zqk2 => k_asm); (case zqkU => k_upd); (case zqk3 => k_asm); (case zqk5 => first | (first | lia | omega) | decide); k_whole); intro _ _ _ _; (try k_sweep))
  trivial
theorem funframes_hide {h h' base B : Heap} : ∀ {l : List Env}, h.FunFrames base l → h.StaysIn h' → (∀ b ∈ frs l, B.get? b = none) → h'.FunFrames B l
  | [], _, _, _ => trivial
  | env :: rest, hl, k, hid => by
    obtain ⟨hk, ⟨L, o, hf, hn, ho, hd⟩, hr⟩ := hl
    have e : frs (env :: rest) = L :: frs rest := by unfold frs; rw [List.filterMap_cons, hf]
    rw [e] at hid
    exact ⟨hk, ⟨L, o, hf, hid L (.head _), k _ _ ho, hd⟩, funframes_hide hr k fun b hb => hid b (.tail _ hb)⟩
theorem frs_live {h base : Heap} : ∀ {l : List Env}, h.FunFrames base l → ∀ b ∈ frs l, base.get? b = none ∧ ∃ o, h.get? b = some o
  | [], _, b, hb => by cases hb
  | env :: rest, hl, b, hb => by
    obtain ⟨hk, ⟨L, o, hf, hn, ho, hd⟩, hr⟩ := hl
    have e : frs (env :: rest) = L :: frs rest := by unfold frs; rw [List.filterMap_cons, hf]
    rw [e] at hb
    rcases List.mem_cons.mp hb with rfl | hb
    · exact ⟨hn, _, ho⟩
    · exact frs_live hr b hb
inductive LrPost (fs : List Addr) (nums : List (Int × Int)) (s : Shared) (v : Value) (s' : Shared) : Prop
  | mk : ∀ mo h' tk vs cnt, (v = .ref mo ∧ s' = { s with heap := h', toks := tk } ∧ (∀ b o, b ∉ fs → s.heap.get? b = some o → h'.get? b = some o) ∧ s.heap.UpToSlots h' ∧
  h'.get? mo = some (W.listOf vs cnt) ∧ s.heap.get? mo = none ∧ IntsAre vs.toList (nums.map mode)) → LrPost fs nums s v s'
inductive LrJ (ax it mo : Addr) (nums : List (Int × Int)) (i : Nat) (m : Str → Option Value) (news : List (Addr × Obj)) : Prop
  | mk o vs cnt :
    (news = [(mo, W.listOf vs.toArray cnt), (it, o)]) →
    (i ≤ nums.length) →
    (ItO o ax (3 * i)) →
    (IntsAre vs ((nums.take i).map mode)) →
    (m "tape" = some (.ref it)) →
    (m "modes" = some (.ref mo)) →
    LrJ ax it mo nums i m news
set_option maxHeartbeats 8000000 in
theorem lread : ∀ (w : World) (hT : Heap) (A : Around) (s : Shared) (ax : Addr) (items : Array Value) (nums : List (Int × Int)) (base : Heap) (outer : List Env) (E : Value → Shared → Prop),
    A.depth + 15 < recursionLimit → A.units + 80 < cLine → A.handled = none → Ctx w hT base → A.frames = some outer → s.heap.FunFrames base outer → base.StaysIn s.heap →
    s.heap.IsList ax items → ax ∉ frs outer → Octs items nums → nums.length ≤ 100 →
    wpAny (model PySem.Challenge.rw_un0012_01.row.prog w) A (call (.ref 123) [.ref ax]) (LrPost (frs outer) nums s) E s := by
  intro w hT A s ax items nums base outer E hdp hun hh C hfr hFF hbs hl hax hO hlen
  obtain ⟨p, loose, mean, mg, mb, T⟩ := C.T
  have Cs : Ctx w hT s.heap := ⟨C.X, C.T, fun b o e => hbs _ _ (C.st _ _ e)⟩
  k_dflt (refine' call_mine [] [("octets", .ref ax)] Cs.In (T.nolimit.keeps Cs.st) (by k_is) (by k_is) (by first | lia | omega) (by exact BindsTo.of_eq rfl) (by exact locs rfl) (by exact rfl) ?_ (by exact rfl) (by exact rfl) (by exact rfl) (by decide); k_whole)
  intro g L' h₁ tk₁ hgs hsg F N
  replace N := N [] (by intro p hp'; cases hp')
  have gst : hT.StaysIn g := fun b o e => hsg b o (Cs.st b o e) (by simp)
  have X' := C.X.keeps gst
  have T' := T.keeps gst
  have hlg : g.IsList ax items := hl.at fun o e => hsg _ _ e (by simp)
  have hL' : s.heap.get? L' = none := by
    cases q : s.heap.get? L' with
    | none => rfl
    | some o => exact absurd (Heap.lt_size (hsg _ _ q (by simp))) (Nat.not_lt.mpr F.above)
  try dsimp only
  (try k_fold); (try k_fold); k_steps
  show wpAny _ _ _ _ _ _
  refine iterN F N (hlg.at fun o e => F.keep _ o e) fun it h₂ o hO₂ F₂ N₂ _ => ?_
  clear F N
  try dsimp only
  (try k_fold); (try k_fold); k_steps
  show wpAny _ _ _ _ _ _
  refine wpAny_For ?_
  (try k_fold); (try k_fold); k_steps
  show wpAny _ _ _ _ _ _
  rename_i mo _ hmo h₃ tk₃ F₃ N₃
  refine len_list (hlg.at fun o e => F₃.keep _ o e) (by rw [hO.1]; (first | lia | omega)) ?_
  try dsimp only
  (try k_fold); (try k_fold); k_steps
  show wpAny _ _ _ _ _ _
  rename_i R' h₄ tk₄ t₁ t₂ t₃ hR F₄ N₄
  have hmo' : mo ≠ it := Nat.ne_of_gt hmo
  refine my_for_range (n := items.size + 1) (LrJ ax it mo nums) rfl hh hR (by rw [hO.1]; (first | lia | omega)) F₄ N₄ ⟨_, [], 0, rfl, Nat.zero_le _, hO₂, .nil, rfl, rfl⟩ ?_ ?_
  · rintro I i t₅ h₅ tk₅ m₁ news₁ extra hi ⟨o₅, vs, cnt, rfl, hin, hO₅, hvs, e1, e2⟩ F₅ N₅ hex hI
    replace F₅ := fr_map [("tape", .ref it), ("modes", .ref mo)] (by intro p hp; simp only [List.mem_cons, List.not_mem_nil, or_false] at hp; rcases hp with rfl | rfl <;> assumption) F₅
    clear e1 e2
    have hxm : ∀ p ∈ extra, p.1 ≠ mo := fun p hp => hex p hp _ (.head _)
    have hxi : ∀ p ∈ extra, p.1 ≠ it := fun p hp => hex p hp _ (.tail _ (.head _))
    simp only [List.cons_append, List.nil_append] at N₅
    try dsimp only
    (try k_fold); (try k_fold); k_steps
    show wpAny _ _ _ _ _ _
    rename_i h₆ t₆ tk₆ F₆ N₆
    rcases Nat.lt_or_ge i nums.length with hlt | hge
    · obtain ⟨e, he⟩ : ∃ e, nums[i]? = some e := ⟨_, List.getElem?_eq_getElem hlt⟩
      obtain ⟨k0, k1, r0, r1, t0, t1, t2, x0, x1, x2⟩ := hO.2 i e he
      have ln : ((nums.take i).map mode).length < 1000 := by rw [List.length_map, List.length_take]; (first | lia | omega)
      have hls := hlg.at fun o e => F₆.keep _ o e
      have hne : ax ≠ it := fun q => by obtain ⟨ol, hol, _⟩ := hlg; have := (N₆ _ (.tail _ (.head _))).2.2; rw [← q] at this; rw [hol] at this; cases this
      refine wpAny_mono (pvarint w hT _ _ it ax (3 * i) items o₅ e.1 e.2 t0 t1 t2 _ (by simp only [depth_deeper]; (first | lia | omega)) (by simp only [units_deeper]; (first | lia | omega)) hh ⟨C.X, C.T, fun b o e => F₆.keep _ _ (gst _ _ e)⟩ (by
          cases q : hT.get? it with
          | none => rfl
          | some o => have := gst _ _ q; rw [(N₆ _ (.tail _ (.head _))).2.2] at this; cases this) (N₆ _ (.tail _ (.head _))).1 hO₅ hne hls x0 x1 x2 k0 k1 r0 r1) (fun v s' hs => ?_) (fun _ _ h => h)
      obtain ⟨h₇, tk₇, o₇, t₇, rfl, rfl, st, ho₇, hO₇⟩ := hs
      obtain ⟨F₇, N₇⟩ := back_at (pre := [(mo, W.listOf vs.toArray cnt)]) (post := extra) F₆ N₆ (by simpa using hmo') hxi st ho₇
      simp only [List.cons_append, List.nil_append] at N₇
      have hx2 : ∀ p ∈ (it, o₇) :: extra, p.1 ≠ mo := fun p hp => by
        rcases List.mem_cons.mp hp with rfl | hp
        · exact Ne.symm hmo'
        · exact hxm p hp
      clear F₆ N₆
      try dsimp only
      (try k_fold); (try k_fold); k_steps
      rename_i h₈ F₈ N₈ hA₈
      refine ⟨h₈, _, _, [_, _], rfl, F₈, N₈, ?_, ⟨o₇, _, _, rfl, hlt, hO₇, ?_, rfl, rfl⟩⟩
      · intro q hq
        rcases List.mem_cons.mp hq with rfl | hq
        · exact hI (mo, W.listOf vs.toArray cnt) (.head _)
        · rw [List.mem_singleton] at hq; subst hq; exact hI (it, o₅) (.tail _ (.head _))
      · rw [List.take_succ, he, List.map_append]
        exact hA₈
    · have hie : i = nums.length := Nat.le_antisymm hin hge
      have hsz : 3 * i = items.size := by rw [hO.1, hie]
      have hls := hlg.at fun o e => F₆.keep _ o e
      have zit := N₆ _ (.tail _ (.head _))
      have zmo := N₆ _ (.head _)
      have hss : s.heap.StaysIn h₆ := fun b o e => F₆.keep _ _ (hsg _ _ e (by simp))
      have gno : ∀ b, g.get? b = none → s.heap.get? b = none := fun b q => by
        cases e : s.heap.get? b with
        | none => rfl
        | some o => rw [hsg _ _ e (by simp)] at q; cases q
      have hlive := frs_live hFF
      generalize hB : hideAll h₆ (it :: L' :: frs outer) = B
      have Bs : B.StaysIn h₆ := fun b o e => of_hideAll _ (hB ▸ e)
      have Bn : ∀ b ∈ it :: L' :: frs outer, B.get? b = none := fun b hb => hB ▸ hideAll_none _ hb
      have Bk : ∀ b o, h₆.get? b = some o → b ∉ it :: L' :: frs outer → B.get? b = some o := fun b o e hb => hB ▸ hideAll_get _ e hb
      have sB : ∀ b o, b ∉ frs outer → s.heap.get? b = some o → B.get? b = some o := fun b o hb e => Bk _ _ (hss _ _ e) (fun hm => by
        rcases List.mem_cons.mp hm with rfl | hm
        · rw [gno _ zit.2.2] at e; cases e
        · rcases List.mem_cons.mp hm with rfl | hm
          · rw [hL'] at e; cases e
          · exact hb hm)
      refine pvstop w hT _ _ it ax items B _ _ _ (by simp only [depth_deeper]; (first | lia | omega)) (by simp only [units_deeper]; (first | lia | omega)) hh ⟨C.X, C.T, fun b o e => F₆.keep _ _ (gst _ _ e)⟩ (Around.frames_deeper hfr) ?_ Bs (Bn _ (.head _)) (hsz ▸ hO₅.at zit.1) hls ?_
      · obtain ⟨oL, es, ep, hoL, hdL, _⟩ := F₆.ns
        exact ⟨(fun q => by cases q), ⟨L', oL, rfl, Bn _ (.tail _ (.head _)), hoL, fun vs q => by rw [hdL] at q; cases q⟩, funframes_hide hFF hss fun b hb => Bn _ (.tail _ (.tail _ hb))⟩
      · intro h₇ tk₇ e a0 hfl hsm
        refine wpAny_looks_onW (Around.frames_deeper hfr) rfl hfl fun h₈ hheld₈ hsm₈ => ?_
        refine wpAny_landsW hheld₈ fun h₉ hheld hsm₉ => ?_
        have hsm' := (hsm.trans hsm₈).trans hsm₉
        obtain ⟨ob, hob, hobc⟩ := hheld.there
        generalize hG2 : hideAll g (frs outer) = g2
        have g2B : ∀ b o, g2.get? b = some o → B.get? b = some o := fun b o e' => by
          refine sB b o (fun hm => ?_) (hgs _ _ (of_hideAll _ (hG2 ▸ e')))
          rw [← hG2, hideAll_none _ hm] at e'; cases e'
        have hF : ∀ {h : Heap}, B.StaysIn h → h₆.UpToSlots h → Fr g2 L' h _ := fun k sm => ⟨sm.ns F₆.ns, fun b o e' => k _ _ (g2B _ _ e'), by rw [← hG2, hideAll_size]; exact F₆.above⟩
        have gst2 : hT.StaysIn g2 := fun b o e' => hG2 ▸ hideAll_get _ (gst _ _ e') (fun hm => by have := (hlive b hm).1; rw [C.st _ _ e'] at this; cases this)
        have X₂ := C.X.keeps gst2
        have T₂ := T.keeps gst2
        have F₉ := hF hheld.1 hsm'
        refine wpAny_handleBy_builtin (X := "StopIteration") (T := "StopIteration") (b := true) sub_stop_base not_tuple_stop sub_stop_stop ?_
        clear X' T'
        (try k_fold); (try k_fold); k_steps
        · exact ⟨ob, hob, hobc⟩
        · show wpAny _ _ _ _ _ _
          refine lands_againW hheld fun h₁₀ hfl₁₀ hsm₁₀ => ?_
          have F₁₀ := hF hfl₁₀.1 (hsm'.trans hsm₁₀)
          try dsimp only
          (try k_fold); (try k_fold); k_steps
          have hmf : mo ∉ it :: L' :: frs outer := fun hm => by
            rcases List.mem_cons.mp hm with q | hm
            · exact hmo' q
            · rcases List.mem_cons.mp hm with q | hm
              · exact zmo.2.1 q
              · obtain ⟨_, o, ho⟩ := hlive mo hm
                rw [gno _ zmo.2.2] at ho; cases ho
          refine ⟨mo, h₁₀, _, vs.toArray, cnt, rfl, rfl, fun b o hb e' => hfl₁₀.1 _ _ (sB _ _ hb e'), ?_, hfl₁₀.1 _ _ (Bk mo _ zmo.1 hmf), gno mo zmo.2.2, ?_⟩
          · exact (Heap.UpToSlots.of_keeps hss).trans (hsm'.trans hsm₁₀)
          · rw [hie, List.take_length] at hvs
            exact hvs
  · rintro h₅ tk₅ m₁ news₁ ⟨o₅, vs, cnt, rfl, hin, _⟩ F₅ N₅
    rw [hO.1] at hin
    (first | lia | omega)
end Mine
end
section
-- L8
open PySem PySem.W PyProof.Rows PySem.Calls PySem.Spec
namespace Mine
section
variable {prog : Program} {w : World} {A : Around} {E E' : Value → Shared → Prop} {s : Shared} {env : Env} {g : Heap}
theorem my_forLoopS {target : Expr} {body orelse : List Stmt} {I : Addr} {fp wr : List Addr} {n : Nat} {P : Nat → Value → Heap → Prop} {St : Nat → Heap → Prop} {Q : Flow → Shared → Prop}
    {m : Str → Option Value} {news : List (Addr × Obj)} (J : Nat → (Str → Option Value) → List (Addr × Obj) → Prop)
    (W : It prog w A target I fp wr n P St) (hst : St 0 s.heap) (F : Fr g env.locals s.heap m) (N : News g env.locals s.heap news) (hL : env.locals ∉ fp) (hwr : ∀ b ∈ wr, g.get? b = none)
    (hn : ∀ q ∈ news, q.1 ∉ fp) (hJ : J 0 m news)
    (turn : ∀ i v h tk m₁ news₁ extra, i < n → P i v h → J i m₁ news₁ → Fr g env.locals h m₁ → News g env.locals h (news₁ ++ extra) → (∀ p ∈ extra, p.1 ∈ fp) → (∀ q ∈ news₁, q.1 ∉ fp) → St (i + 1) h → (∀ b ∈ fp, ∀ o, h.get? b = some o → g.get? b = some o ∨ (b, o) ∈ extra) →
      wpAny (model prog w) A (assign target env v) (fun _ s₂ => wpAny (model prog w) A (execs body env) (ForPost g env.locals fp s (J (i + 1)) extra Q) (fun _ _ => False) s₂) (fun _ _ => False) { s with heap := h, toks := tk })
    (done : ∀ h tk m₁ news₁, J n m₁ news₁ → Fr g env.locals h m₁ → News g env.locals h news₁ → wpAny (model prog w) A (execs orelse env) Q (fun _ _ => False) { s with heap := h, toks := tk }) :
    codeAny (model prog w) A (.forLoop target (.ref I) body orelse env) (fun r s' => match r with | .ok f => Q f s' | .error e => cameBackBy (model prog w) A env E e s') s :=
  my_forLoopT J W hst F N hL hwr hn hJ turn fun h tk m₁ news₁ _ => done h tk m₁ news₁

theorem my_for_listS {target : Expr} {body orelse : List Stmt} {ax : Addr} {items : Array Value} {Q : Flow → Shared → Prop} {m : Str → Option Value} {news : List (Addr × Obj)}
    (J : Nat → (Str → Option Value) → List (Addr × Obj) → Prop) (ht : plainTarget target = true) (hh : A.handled = none) (hl : s.heap.IsList ax items)
    (F : Fr g env.locals s.heap m) (N : News g env.locals s.heap news) (hL : env.locals ≠ ax) (hn : ∀ q ∈ news, q.1 ≠ ax) (hJ : J 0 m news)
    (turn : ∀ I i v h tk m₁ news₁ extra, i < items.size → items[i]? = some v → J i m₁ news₁ → Fr g env.locals h m₁ → News g env.locals h (news₁ ++ extra) → (∀ p ∈ extra, ∀ q ∈ news₁, p.1 ≠ q.1) → (∀ q ∈ news₁, q.1 ∉ [I, ax]) →
      (∀ b ∈ [I, ax], ∃ o, (g.get? b = some o ∨ (b, o) ∈ extra) ∧ o.cls ≠ .type "tuple") →
      wpAny (model prog w) A (assign target env v) (fun _ s₂ => wpAny (model prog w) A (execs body env) (ForPost g env.locals [I, ax] s (J (i + 1)) extra Q) (fun _ _ => False) s₂) (fun _ _ => False) { s with heap := h, toks := tk })
    (done : ∀ h tk m₁ news₁, J items.size m₁ news₁ → Fr g env.locals h m₁ → News g env.locals h news₁ → wpAny (model prog w) A (execs orelse env) Q (fun _ _ => False) { s with heap := h, toks := tk }) :
    wpAny (model prog w) A (pyIter (.ref ax)) (fun it s₂ => codeAny (model prog w) A (.forLoop target it body orelse env) (fun r s' => match r with | .ok f => Q f s' | .error e => cameBackBy (model prog w) A env E e s') s₂) E' s := by
  have hlt : ax < s.heap.objs.size := by obtain ⟨o, ho, _⟩ := hl; exact Heap.lt_size ho
  refine wpAny_pyIter_list hl ?_
  have hnone : s.heap.get? s.heap.objs.size = none := by
    cases e : s.heap.get? s.heap.objs.size with
    | none => rfl
    | some o => exact absurd (Heap.lt_size e) (Nat.lt_irrefl _)
  have up : ∀ b o, s.heap.get? b = some o → (s.heap.push { cls := .type "list_iterator", data := .fields #[.ref ax, .int 0 0] }).get? b = some o := fun b o e => Heap.get?_push_of_some _ e
  have hIL : env.locals ≠ s.heap.objs.size := Nat.ne_of_lt F.ns.lt
  refine my_forLoopS (g := g) (fp := [s.heap.objs.size, ax]) J (It.list (target := target) ht hh s.heap.objs.size ax (Nat.ne_of_lt hlt) items) ⟨⟨_, Heap.get?_push_size _ rfl, rfl, rfl⟩, hl.at fun o e => up _ o e⟩ (fr_up F up) (news_up N up) (fun hb => ?_) (fun b hb => ?_) (fun q hq hb => ?_) hJ ?_ done
  · rcases List.mem_cons.mp hb with e | hb
    · exact hIL e
    · exact hL (List.mem_singleton.mp hb)
  · rw [List.mem_singleton] at hb; subst hb
    cases e : g.get? s.heap.objs.size with
    | none => rfl
    | some o => have := F.keep _ _ e; rw [hnone] at this; cases this
  · rcases List.mem_cons.mp hb with e | hb
    · have := (N q hq).1; rw [e, hnone] at this; cases this
    · exact hn q hq (List.mem_singleton.mp hb)
  · rintro i v h tk m₁ news₁ extra hi hP hJ₁ F₁ N₁ he hn₁ st hfx
    refine for_base (turn _ i v h tk m₁ news₁ extra hi hP hJ₁ F₁ N₁ (fun p hp q hq e => hn₁ q hq (e ▸ he p hp)) hn₁ fun b hb => ?_)
    rcases List.mem_cons.mp hb with rfl | hb'
    · obtain ⟨⟨o, ho, hc, _⟩, _⟩ := st
      exact ⟨o, hfx _ hb o ho, by rw [hc]; decide⟩
    · rw [List.mem_singleton] at hb'; subst hb'
      obtain ⟨_, ⟨o, ho, hc, _⟩⟩ := st
      exact ⟨o, hfx _ hb o ho, by rw [hc]; decide⟩
theorem my_for_rangeS {target : Expr} {body orelse : List Stmt} {r : Addr} {n : Nat} {t u v : Tok} {Q : Flow → Shared → Prop} {m : Str → Option Value} {news : List (Addr × Obj)}
    (J : Nat → (Str → Option Value) → List (Addr × Obj) → Prop) (ht : plainTarget target = true) (hh : A.handled = none) (hr : IsRange s.heap r 0 n 1 t u v) (hn : n < 100000)
    (F : Fr g env.locals s.heap m) (N : News g env.locals s.heap news) (hJ : J 0 m news)
    (turn : ∀ I i t h tk m₁ news₁ extra, i < n → J i m₁ news₁ → Fr g env.locals h m₁ → News g env.locals h (news₁ ++ extra) → (∀ p ∈ extra, ∀ q ∈ news₁, p.1 ≠ q.1) → (∀ q ∈ news₁, q.1 ∉ [I]) →
      (∀ b ∈ [I], ∃ o, (g.get? b = some o ∨ (b, o) ∈ extra) ∧ o.cls ≠ .type "tuple") →
      wpAny (model prog w) A (assign target env (.int i t)) (fun _ s₂ => wpAny (model prog w) A (execs body env) (ForPost g env.locals [I] s (J (i + 1)) extra Q) (fun _ _ => False) s₂) (fun _ _ => False) { s with heap := h, toks := tk })
    (done : ∀ h tk m₁ news₁, J n m₁ news₁ → Fr g env.locals h m₁ → News g env.locals h news₁ → wpAny (model prog w) A (execs orelse env) Q (fun _ _ => False) { s with heap := h, toks := tk }) :
    wpAny (model prog w) A (pyIter (.ref r)) (fun it s₂ => codeAny (model prog w) A (.forLoop target it body orelse env) (fun r s' => match r with | .ok f => Q f s' | .error e => cameBackBy (model prog w) A env E e s') s₂) E' s := by
  have e1 : Builtin.Range.rangeSize 0 n 1 = n := by
    rw [rangeSize_one]
    split <;> (first | lia | omega)
  refine wpAny_pyIter_range hr (small_one (by (first | lia | omega)) (by (first | lia | omega)) (by (first | lia | omega)) (by (first | lia | omega))) ?_
  have hnone : s.heap.get? s.heap.objs.size = none := by
    cases e : s.heap.get? s.heap.objs.size with
    | none => rfl
    | some o => exact absurd (Heap.lt_size e) (Nat.lt_irrefl _)
  have hIL : env.locals ≠ s.heap.objs.size := Nat.ne_of_lt F.ns.lt
  have st0 := Heap.get?_push_size s.heap (o := { cls := .type "range_iterator", data := .fields #[rawInt 0, rawInt n, rawInt 1] }) rfl
  refine my_forLoopS (g := g) (fp := [s.heap.objs.size]) J (It.range (target := target) ht hh s.heap.objs.size n) (by rw [e1]; simpa using st0) (fr_up F (fun b o e => Heap.get?_push_of_some _ e)) (news_up N (fun b o e => Heap.get?_push_of_some _ e)) (fun hb => ?_) (fun b hb => ?_) (fun q hq hb => ?_) hJ ?_ done
  · exact hIL (List.mem_singleton.mp hb)
  · rw [List.mem_singleton] at hb; subst hb
    cases e : g.get? s.heap.objs.size with
    | none => rfl
    | some o => have := F.keep _ _ e; rw [hnone] at this; cases this
  · have := (N q hq).1; rw [List.mem_singleton.mp hb, hnone] at this; cases this
  · rintro i v h tk m₁ news₁ extra hi ⟨t, rfl⟩ hJ₁ F₁ N₁ he hn₁ st hfx
    refine for_base (turn _ i t h tk m₁ news₁ extra hi hJ₁ F₁ N₁ (fun p hp q hq e => hn₁ q hq (e ▸ he p hp)) hn₁ fun b hb => ?_)
    rw [List.mem_singleton] at hb; subst hb
    exact ⟨_, hfx _ (.head _) _ st, fun e => by have e2 : Value.type "range_iterator" = Value.type "tuple" := e; revert e2; decide⟩
end
end Mine
end
section
-- E1
open PySem PySem.W PyProof.Rows PySem.Calls PySem.Spec
namespace Mine
/-- the value is a tuple whose items are as S says -/
inductive TP {α : Type} (S : α → Array Value → Prop) (h : Heap) (v : Value) (k : α) : Prop
  | mk : ∀ a arr n, (v = .ref a ∧ h.get? a = some (tupO arr n) ∧ S k arr) → TP S h v k
/-- the same, by the ledger -/
inductive TN {α : Type} (S : α → Array Value → Prop) (g : Heap) (tups : List (Addr × Obj)) (v : Value) (k : α) : Prop
  | mk : ∀ a arr n, (v = .ref a ∧ ((a, tupO arr n) ∈ tups ∨ g.get? a = some (tupO arr n)) ∧ S k arr) → TN S g tups v k
inductive S3 (k : Int) (arr : Array Value) : Prop
  | mk : ∀ t1 t2 t3 x y z, (arr = #[.int x t1, .int y t2, .int z t3] ∧ 0 ≤ x ∧ x < 32 ∧ 0 ≤ y ∧ y < 32 ∧ 0 ≤ z ∧ z < 32 ∧ k = x * 1024 + y * 32 + z) → S3 k arr
theorem IsT3.tp {h : Heap} {v : Value} {k : Int} (x : IsT3 h v k) : TP S3 h v k := by
  obtain ⟨a, t1, t2, t3, n, x, y, z, rfl, ha, r⟩ := x
  exact ⟨a, _, n, rfl, ha, t1, t2, t3, x, y, z, rfl, r⟩
theorem TP.t3 {h : Heap} {v : Value} {k : Int} (x : TP S3 h v k) : IsT3 h v k := by
  obtain ⟨a, _, n, rfl, ha, t1, t2, t3, x, y, z, rfl, r⟩ := x
  exact ⟨a, t1, t2, t3, n, x, y, z, rfl, ha, r⟩
section
variable {α : Type} {S : α → Array Value → Prop} {g h : Heap} {L : Addr} {m : Str → Option Value} {tups tups' : List (Addr × Obj)}
theorem TN.tp {v : Value} {k : α} (x : TN S g tups v k) (N : News g L h tups) (F : Fr g L h m) : TP S h v k := by
  obtain ⟨a, arr, n, rfl, hm | hm, hs⟩ := x
  · exact ⟨a, arr, n, rfl, (N _ hm).1, hs⟩
  · exact ⟨a, arr, n, rfl, F.keep _ _ hm, hs⟩
theorem TN.mono {v : Value} {k : α} (x : TN S g tups v k) (hs : ∀ p ∈ tups, p ∈ tups') : TN S g tups' v k := by
  obtain ⟨a, arr, n, rfl, hm, hS⟩ := x
  exact ⟨a, arr, n, rfl, hm.imp (hs _) id, hS⟩
theorem collect1 {v : Value} {k : α} (x : TP S h v k) (F : Fr g L h m) : ∃ tups, News g L h tups ∧ TN S g tups v k ∧ ∀ p ∈ tups, p.2.cls = .type "tuple" := by
  obtain ⟨a, arr, n, rfl, ha, hS⟩ := x
  cases e : g.get? a with
  | some o =>
    have := F.keep _ _ e
    rw [ha] at this; cases this
    exact ⟨[], by intro p hp; (first | cases hp), ⟨a, arr, n, rfl, .inr e, hS⟩, by intro p hp; cases hp⟩
  | none =>
    refine ⟨[(a, tupO arr n)], ?_, ⟨a, arr, n, rfl, .inl (.head _), hS⟩, ?_⟩
    · exact News.more F (news := []) (fun _ hp => nomatch hp) ha (fun _ _ q => nomatch q) e
    · intro p hp
      rw [List.mem_singleton] at hp; subst hp; rfl
theorem collect {vs : List Value} {ys : List α} (x : All2 (TP S h) vs ys) (F : Fr g L h m) : ∃ tups, News g L h tups ∧ All2 (TN S g tups) vs ys ∧ ∀ p ∈ tups, p.2.cls = .type "tuple" := by
  induction x with
  | nil => exact ⟨[], (by intro p hp; cases hp), .nil, (by intro p hp; cases hp)⟩
  | cons r _ ih =>
    obtain ⟨t1, N1, x1, c1⟩ := collect1 r F
    obtain ⟨t2, N2, x2, c2⟩ := ih
    refine ⟨t1 ++ t2, ?_, .cons (x1.mono fun p hp => List.mem_append_left _ hp) (x2.mono fun _ _ y => y.mono fun p hp => List.mem_append_right _ hp), ?_⟩
    · intro p hp
      rcases List.mem_append.mp hp with hp | hp
      · exact N1 p hp
      · exact N2 p hp
    · intro p hp
      rcases List.mem_append.mp hp with hp | hp
      · exact c1 p hp
      · exact c2 p hp
/-- a tuple is not at the address of an object of another class -/
theorem tups_ne (N : News g L h tups) (ht : ∀ p ∈ tups, p.2.cls = .type "tuple") {b : Addr} {o : Obj} (hb : h.get? b = some o) (hc : o.cls ≠ .type "tuple") : ∀ p ∈ tups, p.1 ≠ b := fun p hp e => by
  have := (N p hp).1
  rw [e, hb] at this
  cases this
  exact hc (ht p hp)
end
end Mine
end
section
-- E2
open PySem PySem.W PyProof.Rows PySem.Calls PySem.Spec
namespace Mine
-- lines of the walk
theorem lines_E2_1 : True := by
  k_with_none
  k_with "execs nil" => (k_here; first | k_gentoks | (refine SeqQ.next ?_; k_gentoks) | refine wpAny_execs_nil ?_)
  k_with "execs cons" => (k_here; first | k_gentoks | (refine SeqQ.next ?_; k_gentoks) | refine execs_consS ?_)
  k_with "eval ListComp" => refine Stopped.intro ?_
  k_with "exec Assign cons ListComp" => refine Stopped.intro ?_
  k_with "exec While Compare cons nil" => refine Stopped.intro ?_
  k_with "exec While Name cons nil" => refine Stopped.intro ?_
  k_with "exec For" => refine Stopped.intro ?_
  k_with "exec For Name Name cons nil" => refine Stopped.intro ?_
  k_with "exec For Name Call cons nil" => refine Stopped.intro ?_
  k_with "exec For Name Call cons cons" => refine Stopped.intro ?_
  k_with "exec For Tuple Name cons nil" => refine Stopped.intro ?_
  k_with "exec For Tuple Call cons nil" => refine Stopped.intro ?_
  k_with "exec For Tuple Name cons cons" => refine Stopped.intro ?_
  k_with "pyIter ref" => refine Stopped.intro ?_
  k_with "call ref" => refine Stopped.intro ?_
  k_with "WhileStep2" => refine Stopped.intro ?_
  k_with "ForPost" => refine Stopped.intro ?_
  k_with "CEnd" => refine Stopped.intro ?_
  k_with "call type:range" => (k_here; (with_unfolding_all refine' range1 ?zqk1 ?zqk2 ?_; (case zqk1 => k_asm); (case zqk2 => k_asm); k_whole); intro _ _ _ _ _ _ _ _ _; (try k_sweep); (try dsimp only))
  k_with "storeName" => (k_here; (with_reducible show wpAny _ _ (storeName (compEnvC _ _ _ _) _ _) _ _ _); (with_unfolding_all refine' stE ?zqF ?zqN ?_ ?zqa ?zqb; (case zqF => k_asm); (case zqN => k_asm); (case zqa => rfl); (case zqb => rfl); k_whole); intro _ _ _ _; (try k_sweep); (try dsimp only))
  k_with "storeName" => (k_here; (first
    | (with_unfolding_all refine' st_int ?zqF ?zqN ?_ ?zqa ?zqb; (case zqF => k_asm); (case zqN => k_asm); (case zqa => rfl); (case zqb => rfl); k_whole; intro _ _ _ _ _)
    | (with_unfolding_all refine' st_str ?zqF ?zqN ?_ ?zqa ?zqb; (case zqF => k_asm); (case zqN => k_asm); (case zqa => rfl); (case zqb => rfl); k_whole; intro _ _ _ _ _)
    | (with_unfolding_all refine' st_any ?zqF ?zqN ?_ ?zqa ?zqb; (case zqF => k_asm); (case zqN => k_asm); (case zqa => rfl); (case zqb => rfl); k_whole; intro _ _ _ _)); (try k_sweep); (try dsimp only))
  k_with "eval Name" => (k_here; (with_reducible show wpAny _ _ (eval (Expr.Name _ _) (compEnvC _ _ _ _)) _ _ _); k_dflt (first
    | (refine' nE_L ?zqF ?zqv ?_ ?zqa ?zqb ?zqc; (case zqb => rfl); (case zqa => rfl); (case zqc => decide); (case zqF => k_asm); (case zqv => first | rfl | assumption); k_whole)
    | (refine' nE_CN ?zqN ?zqc ?zqm ?zqd ?_ ?zqa ?zqb ?zqe; (case zqb => rfl); (case zqa => rfl); (case zqe => decide); (case zqN => k_asm); (case zqc => rfl); (case zqm => k_mem); (case zqd => k_asm); k_whole)
    | (refine' nE_C ?zqF ?zqc ?zqm ?_ ?zqa ?zqb ?zqd; (case zqb => rfl); (case zqa => rfl); (case zqd => decide); (case zqF => k_asm); (case zqc => rfl); (case zqm => k_asm); k_whole)
    | (refine' nE_F ?zqF ?zqc ?zqm ?_ ?zqa ?zqb ?zqd ?zqe; (case zqb => rfl); (case zqa => rfl); (case zqd => decide); (case zqe => decide); (case zqF => k_asm); (case zqc => rfl); (case zqm => k_asm); k_whole)
    | (refine' nE_K ?zqF ?zqX ?zqT ?zqe ?_ ?zqa ?zqg ?zqb ?zqd; (case zqb => rfl); (case zqa => rfl); (case zqg => rfl); (case zqd => decide); (case zqF => k_asm); (case zqX => k_asm); (case zqT => k_asm); (case zqe => k_is); k_whole)
    | (refine' nE_B ?zqF ?zqX ?zqT ?zqe ?zqv ?zqn ?_ ?zqa ?zqg ?zqi ?zqb ?zqd; (case zqb => rfl); (case zqa => rfl); (case zqg => rfl); (case zqi => rfl); (case zqd => decide); (case zqF => k_asm); (case zqX => k_asm); (case zqT => k_asm); (case zqe => k_is); (case zqv => boot_fast); (case zqn => decide); k_whole)))
  k_with "binaryOp RShift int int" => (k_here; (with_reducible refine' shrN ?zqa ?_; (case zqa => (first | lia | omega)); k_whole); intro _ _; (try dsimp only))
  k_with "binaryOp RShift int int" => (k_here; (with_reducible refine shr1 ?_); intro _ _; (try dsimp only))
  k_with "binaryOp BitAnd int int" => (k_here; (with_reducible refine and1 ?_); intro _ _; (try dsimp only))
  k_with "call builtin:sum" => refine Stopped.intro ?_
  trivial
noncomputable def keyN (Y c : Nat) : Int := ((rank Y * 32 + c : Nat) : Int)
theorem pop5N (r : Nat) : pop5 (r : Int) = (popN r : Int) := by unfold pop5 popN; (first | lia | omega)
theorem popN_le {r : Nat} : popN r ≤ 5 := by unfold popN; (first | lia | omega)
theorem imode_eq {k r : Int} (k0 : 0 ≤ k) (k1 : k < 16) (r0 : 0 ≤ r) (r1 : r < 32) : Builtin.bitAnd (k * 4096 + r) 4095 = r := by
  have key : ∀ n : _root_.Fin 16, ∀ r : _root_.Fin 32, Builtin.bitAnd ((n.val : Int) * 4096 + (r.val : Int)) 4095 = (r.val : Int) := by decide +kernel
  obtain ⟨n, rfl⟩ := Int.eq_ofNat_of_zero_le k0
  obtain ⟨r, rfl⟩ := Int.eq_ofNat_of_zero_le r0
  exact key ⟨n, by (first | lia | omega)⟩ ⟨r, by (first | lia | omega)⟩
inductive ModeIs (v : Value) (r : Nat) : Prop
  | mk : ∀ k t, (v = .int (k * 4096 + (r : Int)) t ∧ (0 : Int) ≤ k ∧ k < (16 : Int) ∧ 1 ≤ r ∧ r < 32) → ModeIs v r
noncomputable def SL (R : List Nat) (Y : Nat) (arr : Array Value) : Prop := ∃ t1 t2, arr = #[.int (Y : Int) t1, .str (pf (Zc R Y : Nat)) t2]
inductive LogPost (R : List Nat) (s : Shared) (v : Value) (s' : Shared) : Prop
  | mk : ∀ lg h' tk lvs cnt, (v = .ref lg ∧ s' = { s with heap := h', toks := tk } ∧ s.heap.StaysIn h' ∧ h'.get? lg = some (W.listOf lvs.toArray cnt) ∧ s.heap.get? lg = none ∧
  All2 (TP (SL R) h') lvs (logN R 192)) → LogPost R s v s'
theorem push_step {w : World} {hT : Heap} {A : Around} {s : Shared} {hp : Addr} {vs : List Value} {xs : List Int} {cnt : Nat} {v : Value} {k : Int} {E Q : Value → Shared → Prop} {g : Heap} {L : Addr} {m : Str → Option Value} {pre post : List (Addr × Obj)}
    (hd : A.depth + 10 < recursionLimit) (hu : A.units + 80 < cLine) (C : Ctx w hT s.heap) (hhp : hT.get? hp = none) (F : Fr g L s.heap m) (N : News g L s.heap (pre ++ (hp, W.listOf vs.toArray cnt) :: post))
    (hpre : ∀ p ∈ pre, p.1 ≠ hp) (hpost : ∀ p ∈ post, p.1 ≠ hp) (hxs : All2 (IsT3 s.heap) vs xs) (hlen : xs.length < 900) (hok : HeapOK xs.length (gD xs)) (hv : IsT3 s.heap v k)
    (h : ∀ h' tk' vs' xs' cnt' tups, Fr g L h' m → News g L h' (pre ++ (hp, W.listOf vs'.toArray cnt') :: post) → News g L h' tups → (∀ p ∈ tups, p.2.cls = .type "tuple") → All2 (TN S3 g tups) vs' xs' → xs'.length = xs.length + 1 → HeapOK xs'.length (gD xs') → (∀ j, j ∈ xs' ↔ j ∈ xs ∨ j = k) →
      Q .none { s with heap := h', toks := tk' }) :
    wpAny (model PySem.Challenge.rw_un0012_01.row.prog w) A (call (.ref 21) [.ref hp, v]) Q E s := by
  refine wpAny_mono (hpush w hT A s hp vs xs cnt v k E hd hu C hhp (N _ (List.mem_append_right _ (.head _))).1 hxs hlen hok hv) (fun r s' hs => ?_) fun _ _ e => e
  obtain ⟨rfl, h', tk', vs', xs', cnt', rfl, st, ho, hA, hl, hk, hm⟩ := hs
  obtain ⟨F', N'⟩ := back_at F N hpre hpost st ho
  obtain ⟨tups, Nt, hT3, hc⟩ := collect (hA.mono fun _ _ x => x.tp) F'
  exact h h' tk' vs' xs' cnt' tups F' N' Nt hc hT3 hl hk hm
theorem pop_step {w : World} {hT : Heap} {A : Around} {s : Shared} {hp : Addr} {vs : List Value} {xs : List Int} {cnt : Nat} {E Q : Value → Shared → Prop} {g : Heap} {L : Addr} {m : Str → Option Value} {pre post : List (Addr × Obj)}
    (hd : A.depth + 15 < recursionLimit) (hu : A.units + 120 < cLine) (C : Ctx w hT s.heap) (hhp : hT.get? hp = none) (F : Fr g L s.heap m) (N : News g L s.heap (pre ++ (hp, W.listOf vs.toArray cnt) :: post))
    (hpre : ∀ p ∈ pre, p.1 ≠ hp) (hpost : ∀ p ∈ post, p.1 ≠ hp) (hxs : All2 (IsT3 s.heap) vs xs) (hlen : xs.length < 900) (hpos : 0 < xs.length) (hok : HeapOK xs.length (gD xs))
    (h : ∀ a arr n k h' tk' vs' xs' cnt' tups, h'.IsTuple a arr → S3 k arr → Fr g L h' m → News g L h' (pre ++ (hp, W.listOf vs'.toArray cnt') :: post) → News g L h' tups → (∀ p ∈ tups, p.2.cls = .type "tuple") → ((a, tupO arr n) ∈ tups ∨ g.get? a = some (tupO arr n)) → All2 (TN S3 g tups) vs' xs' → xs.length = xs'.length + 1 → HeapOK xs'.length (gD xs') → (∀ j, j ∈ xs ↔ j = k ∨ j ∈ xs') → (∀ j ∈ xs, k ≤ j) →
      Q (.ref a) { s with heap := h', toks := tk' }) :
    wpAny (model PySem.Challenge.rw_un0012_01.row.prog w) A (call (.ref 28) [.ref hp]) Q E s := by
  refine wpAny_mono (hpop w hT A s hp vs xs cnt E hd hu C hhp (N _ (List.mem_append_right _ (.head _))).1 hxs hlen hpos hok) (fun r s' hs => ?_) fun _ _ e => e
  obtain ⟨k, h', tk', vs', xs', cnt', hr, rfl, st, ho, hA, hl, hk, hm, hmin⟩ := hs
  obtain ⟨F', N'⟩ := back_at F N hpre hpost st ho
  obtain ⟨tups, Nt, hT3, hc⟩ := collect (All2.cons hr.tp (hA.mono fun _ _ x => x.tp)) F'
  cases hT3 with
  | cons hr' hT3 =>
    obtain ⟨a, arr, n, rfl, hmem, hS⟩ := hr'
    have ha : h'.get? a = some (tupO arr n) := by
      rcases hmem with hmem | hmem
      · exact (Nt _ hmem).1
      · exact F'.keep _ _ hmem
    exact h a arr n k h' tk' vs' xs' cnt' tups ⟨_, ha, rfl, n, rfl⟩ hS F' N' Nt hc hmem hT3 hl hk hm hmin
theorem it_truthyN {prog : Program} {w : World} {A : Around} {E : Value → Shared → Prop} {s : Shared} {g : Heap} {L hp : Addr} {news : List (Addr × Obj)} {vs : List Value} {cnt : Nat} {α : Type} {RR : Value → α → Prop} {xs : List α} {Q : Bool → Shared → Prop} (N : News g L s.heap news) (hm : (hp, W.listOf vs.toArray cnt) ∈ news) (ha : All2 RR vs xs) (hf : xs.length < 1000)
    (h : ∀ tk', Q (decide (0 < xs.length)) { s with toks := tk' }) : wpAny (model prog w) A (truthy (.ref hp)) Q E s := by
  have hl := ha.length
  refine wpAny_truthy_list (PySem.IsL.isList (n := cnt) (N _ hm).1) (by rw [List.size_toArray]; (first | lia | omega)) ?_
  have e : (!vs.toArray.isEmpty) = decide (0 < xs.length) := by
    cases vs <;> cases xs <;> simp_all
  rw [e]
  exact h _
theorem lines_E2_2 : True := by
  k_with "truthy ref" => (k_here; (with_unfolding_all refine' it_truthyN ?zqk1 ?zqk2 ?zqk3 ?zqk4 ?_; (case zqk1 => k_asm); (case zqk2 => k_mem); (case zqk3 => with_reducible assumption); (case zqk4 => first | (first | lia | omega) | decide); k_whole); intro _; (try dsimp only))
  k_with "exec While BoolOp cons nil" => refine Stopped.intro ?_
  trivial
noncomputable def HeapIs (R : List Nat) (T : Nat) (xs : List Int) : Prop := ∀ j, j ∈ xs ↔ ∃ Y c, j = keyN Y c ∧ Ent R T Y c
inductive J2 (g : Heap) (hp lg : Addr) (R : List Nat) (n : Nat) (m : Str → Option Value) (news : List (Addr × Obj)) : Prop
  | mk (vs lvs : List Value) (xs : List Int) (cnt lcnt : Nat) (tups : List (Addr × Obj)) (T : Nat) :
    (news = (lg, W.listOf lvs.toArray lcnt) :: (hp, W.listOf vs.toArray cnt) :: tups) →
    ((∀ p ∈ tups, p.2.cls = .type "tuple")) →
    (All2 (TN S3 g tups) vs xs) →
    (All2 (TN (SL R) g tups) lvs (logN R T)) →
    (xs.length ≤ R.length + 5 * (logN R T).length) →
    (HeapOK xs.length (gD xs)) →
    (HeapIs R T xs) →
    (T ≤ 192) →
    (n = 192 - T) →
    (m "heap" = some (.ref hp)) →
    (m "log" = some (.ref lg)) →
    J2 g hp lg R n m news
theorem logN_len (R : List Nat) {T : Nat} (hT : T ≤ 192) : (logN R T).length ≤ 32 := by
  unfold logN
  rw [List.length_map]
  have h1 : ((List.range T).filter (okR R)).length ≤ ((List.range T).filter fun t => t / 32 == popN (t % 32)).length := by
    have e : ∀ l : List Nat, (l.filter (okR R)).length ≤ (l.filter fun t => t / 32 == popN (t % 32)).length := by
      intro l
      induction l with
      | nil => exact Nat.le_refl _
      | cons a l ih =>
        rw [List.filter_cons, List.filter_cons]
        cases q : (a / 32 == popN (a % 32)) with
        | true => cases q' : okR R a <;> simp <;> (first | lia | omega)
        | false =>
          have : okR R a = false := by unfold okR; rw [q]; rfl
          rw [this]; simpa using ih
    exact e _
  have h2 : ((List.range T).filter fun t => t / 32 == popN (t % 32)).length ≤ ((List.range 192).filter fun t => t / 32 == popN (t % 32)).length := by
    obtain ⟨d, hd⟩ := Nat.exists_eq_add_of_le hT
    rw [hd, List.range_add, List.filter_append, List.length_append]
    (first | lia | omega)
  have h3 : ((List.range 192).filter fun t => t / 32 == popN (t % 32)).length = 32 := by decide +kernel
  (first | lia | omega)
theorem Ent.lt {R : List Nat} {T Y c : Nat} (h : Ent R T Y c) : c < 32 := by
  obtain ⟨hY, _, ⟨rfl, _⟩ | ⟨k, _, _, _, _, rfl⟩⟩ := h
  · exact hY
  · exact Zc_lt _ _
theorem key_split {x y z : Int} {Y c : Nat} (hY : Y < 32) (hc : c < 32) (y0 : 0 ≤ y) (y1 : y < 32) (z0 : 0 ≤ z) (z1 : z < 32) (h : keyN Y c = x * 1024 + y * 32 + z) : x = (popN Y : Int) ∧ y = (Y : Int) ∧ z = (c : Int) := by
  unfold keyN rank at h
  (first | lia | omega)
theorem key_inj {Y Y' c c' : Nat} (hY : Y < 32) (hY' : Y' < 32) (hc : c < 32) (hc' : c' < 32) (h : keyN Y c = keyN Y' c') : Y = Y' ∧ c = c' := by
  unfold keyN rank at h; (first | lia | omega)
theorem and31 {c : Nat} (h : c < 32) : 31 &&& c = c := by
  have key : ∀ c : _root_.Fin 32, 31 &&& c.val = c.val := by decide +kernel
  exact key ⟨c, h⟩
theorem bitAnd_nat {a b : Nat} (ha : a < 32) (hb : b < 32) : Builtin.bitAnd (a : Int) (b : Int) = ((a &&& b : Nat) : Int) := by
  have key : ∀ a b : _root_.Fin 32, Builtin.bitAnd (a.val : Int) (b.val : Int) = ((a.val &&& b.val : Nat) : Int) := by decide +kernel
  exact key ⟨a, ha⟩ ⟨b, hb⟩
section
variable {prog : Program} {w : World} {A : Around} {E : Value → Shared → Prop} {s : Shared} {g : Heap} {L hp : Addr} {m : Str → Option Value} {news tups : List (Addr × Obj)} {vs : List Value} {xs : List Int} {cnt : Nat} {t : Tok}
theorem sub0 {value slice : PySem.Expr} {Q : Value → Shared → Prop} (F : Fr g L s.heap m) (N : News g L s.heap news) (hm : (hp, W.listOf vs.toArray cnt) ∈ news) (Nt : News g L s.heap tups) (ha : All2 (TN S3 g tups) vs xs) (h1 : 0 < xs.length)
    (h : ∀ a x y z t1 t2 t3, IsTup s.heap a [Value.int x t1, .int y t2, .int z t3].toArray → 0 ≤ y → y < 32 → 0 ≤ z → z < 32 → gD xs 0 = x * 1024 + y * 32 + z → Q (.ref a) s)
    (hs : subscripted slice false (.ref hp) (.int 0 t) = operate [.ref hp, .int 0 t] (getItem (.ref hp) (.int 0 t)) := by with_unfolding_all rfl) :
    wpAny (model prog w) A (subscriptTail value slice (.ref hp) (.int 0 t)) Q E s := by
  obtain ⟨v, hv, r⟩ := ha.get (gD_some (xs := xs) (i := 0) h1)
  obtain ⟨a, arr, n, rfl, hg, t1, t2, t3, x, y, z, rfl, x0, x1, y0, y1, z0, z1, hk⟩ := r.tp Nt F
  refine tail_any (PySem.IsL.isList (n := cnt) (N _ hm).1).typeIs slot_list_getitem.lookup (wpAny_getItem_list (PySem.IsL.isList (n := cnt) (N _ hm).1) (by decide) (by decide) (by simpa using hv) ?_) hs
  exact h a x y z t1 t2 t3 ⟨_, hg, rfl, n, rfl⟩ y0 y1 z0 z1 hk
end
theorem lines_E2_3 : True := by
  k_with "subscriptTail" => refine Stopped.intro ?_
  trivial
inductive J3 (g : Heap) (hp lg : Addr) (R : List Nat) (T₀ Y : Nat) (xs0 : List Int) (lvs : List Value) (lcnt : Nat) (n : Nat) (m : Str → Option Value) (news : List (Addr × Obj)) : Prop
  | mk (vs : List Value) (xs : List Int) (cnt : Nat) (tups : List (Addr × Obj)) (cs : List Nat) (t1 t2 t3 : Tok) :
    (news = (lg, W.listOf lvs.toArray lcnt) :: (hp, W.listOf vs.toArray cnt) :: tups) →
    ((∀ p ∈ tups, p.2.cls = .type "tuple")) →
    (All2 (TN S3 g tups) vs xs) →
    (All2 (TN (SL R) g tups) lvs (logN R T₀)) →
    (xs.length = n) →
    (n < xs0.length) →
    (HeapOK xs.length (gD xs)) →
    ((∀ j ∈ xs, j ∈ xs0)) →
    ((∀ Y' c', Ent R T₀ Y' c' → Y' ≠ Y → keyN Y' c' ∈ xs)) →
    ((∀ c, Ent R T₀ Y c → c ∈ cs ∨ keyN Y c ∈ xs)) →
    ((∀ c ∈ cs, Ent R T₀ Y c)) →
    (m "many" = some (.int (popN Y : Nat) t1)) →
    (m "chosen" = some (.int (Y : Nat) t2)) →
    (m "common" = some (.int (cs.foldl (· &&& ·) 31 : Nat) t3)) →
    (m "heap" = some (.ref hp)) →
    (m "log" = some (.ref lg)) →
    J3 g hp lg R T₀ Y xs0 lvs lcnt n m news
theorem gD_mem {xs : List Int} (h : 0 < xs.length) : gD xs 0 ∈ xs := List.mem_of_getElem? (gD_some h)
theorem hmin_all {xs : List Int} (hok : HeapOK xs.length (gD xs)) : ∀ j ∈ xs, gD xs 0 ≤ j := fun j hj => by
  obtain ⟨i, hi⟩ := List.getElem?_of_mem hj
  have hlt : i < xs.length := (List.getElem?_eq_some_iff.mp hi).1
  have := gD_some hlt
  rw [hi] at this
  have e : j = gD xs i := Option.some.inj this
  rw [e]; exact heap_min hok i hlt
theorem iandI {prog : Program} {w : World} {A : Around} {E : Value → Shared → Prop} {s : Shared} {a b : Int} {t u : Tok} {Q : Value → Shared → Prop} (h : ∀ t' tk', Q (.int (Builtin.bitAnd a b) t') { s with toks := tk' }) : wpAny (model prog w) A (inplaceOp .BitAnd (.int a t) (.int b u)) Q E s := iand_int (h _ _)
theorem lines_E2_4 : True := by
  k_with "inplaceOp BitAnd int int" => refine Stopped.intro ?_
  trivial
theorem tap {prog : Program} {w : World} {A : Around} {E : Value → Shared → Prop} {s : Shared} {g : Heap} {L na : Addr} {m : Str → Option Value} {news news' : List (Addr × Obj)} {vs : List Value} {cnt : Nat} {x : Value} {Q : Value → Shared → Prop} (F : Fr g L s.heap m) (N : News g L s.heap news) (U : Upd na (W.listOf vs.toArray cnt) (W.listOf (vs ++ [x]).toArray (cnt + 1)) news news') (hf : vs.length < 1000)
    (h : ∀ h', Fr g L h' m → News g L h' news' → Q .none { s with heap := h' }) : wpAny (model prog w) A (call (.builtin "list.append") [.ref na, x]) Q E s := by
  refine append_K (its := vs.toArray) F N (by simpa using U) h ?_
  rw [List.size_toArray, sizeLine_eq]; (first | lia | omega)
theorem lines_E2_5 : True := by
  k_with "call builtin:list.append" => (k_here; (with_unfolding_all refine' tap ?zqk1 ?zqk2 ?zqkU ?zqk5 ?_; (case zqk1 => k_asm); (case zqk2 => k_asm); (case zqkU => k_upd); (case zqk5 => first | (first | lia | omega) | decide); k_whole); intro _ _ _; (try k_sweep))
  k_with "binaryOp LShift int int" => (k_here; (with_reducible refine shl1 ?zqa ?_; (case zqa => (first | lia | omega))); intro _ _; (try dsimp only))
  trivial
theorem testBit_div (Y i : Nat) : Y.testBit i = decide (Y / 2 ^ i % 2 = 1) := Nat.testBit_eq_decide_div_mod_eq
theorem bit_cast {Y i : Nat} : ((Y : Int) / 2 ^ i % 2) = ((Y / 2 ^ i % 2 : Nat) : Int) := by
  rw [Int.natCast_emod, Int.natCast_ediv, Int.natCast_pow]; rfl
inductive J4 (g : Heap) (hp lg : Addr) (R : List Nat) (T₀ Y : Nat) (xsf : List Int) (i : Nat) (m : Str → Option Value) (news : List (Addr × Obj)) : Prop
  | mk (vs lvs : List Value) (xs : List Int) (cnt lcnt : Nat) (tups : List (Addr × Obj)) (t1 t2 t3 : Tok) :
    (news = (lg, W.listOf lvs.toArray lcnt) :: (hp, W.listOf vs.toArray cnt) :: tups) →
    ((∀ p ∈ tups, p.2.cls = .type "tuple")) →
    (All2 (TN S3 g tups) vs xs) →
    (All2 (TN (SL R) g tups) lvs (logN R T₀ ++ [Y])) →
    (xs.length ≤ xsf.length + i) →
    (HeapOK xs.length (gD xs)) →
    ((∀ j, j ∈ xs ↔ j ∈ xsf ∨ ∃ k, k < i ∧ Y.testBit k = false ∧ j = keyN (Y + 2 ^ k) (Zc R Y))) →
    (m "many" = some (.int (popN Y : Nat) t1)) →
    (m "chosen" = some (.int (Y : Nat) t2)) →
    (m "common" = some (.int (Zc R Y : Nat) t3)) →
    (m "heap" = some (.ref hp)) →
    (m "log" = some (.ref lg)) →
    J4 g hp lg R T₀ Y xsf i m news
inductive TestPost (g : Heap) (L : Addr) (m : Str → Option Value) (news : List (Addr × Obj)) (s : Shared) (Y : Nat) (xs : List Int) (b : Bool) (s' : Shared) : Prop
  | mk : ∀ h' tk', (s' = { s with heap := h', toks := tk' } ∧ Fr g L h' m ∧ News g L h' news ∧ (b = true → 0 < xs.length ∧ ∃ c, c < 32 ∧ gD xs 0 = keyN Y c) ∧ (b = false → ∀ c, c < 32 → keyN Y c ∉ xs)) → TestPost g L m news s Y xs b s'
inductive J1 (g : Heap) (hp : Addr) (R : List Nat) (i : Nat) (m : Str → Option Value) (news : List (Addr × Obj)) : Prop
  | mk (vs : List Value) (xs : List Int) (cnt : Nat) (tups : List (Addr × Obj)) :
    (news = (hp, W.listOf vs.toArray cnt) :: tups) →
    ((∀ p ∈ tups, p.2.cls = .type "tuple")) →
    (All2 (TN S3 g tups) vs xs) →
    (xs.length = i) →
    (HeapOK xs.length (gD xs)) →
    ((∀ j, j ∈ xs ↔ ∃ r ∈ R.take i, j = keyN r r)) →
    (m "heap" = some (.ref hp)) →
    J1 g hp R i m news
set_option maxHeartbeats 8000000 in
theorem llog : ∀ (w : World) (hT : Heap) (A : Around) (s : Shared) (ax : Addr) (items : Array Value) (R : List Nat) (E : Value → Shared → Prop),
    A.depth + 25 < recursionLimit → A.units + 200 < cLine → A.handled = none → Ctx w hT s.heap → s.heap.IsList ax items → All2 ModeIs items.toList R → R.length ≤ 100 →
    wpAny (model PySem.Challenge.rw_un0012_01.row.prog w) A (call (.ref 130) [.ref ax]) (LogPost R s) E s := by
  intro w hT A s ax items R E hdp hun hh C hl hR hlen
  obtain ⟨p, loose, mean, mg, mb, T⟩ := C.T
  k_dflt (refine' call_mine [] [("modes", .ref ax)] C.In (T.nolimit.keeps C.st) (by k_is) (by k_is) (by first | lia | omega) (by exact BindsTo.of_eq rfl) (by exact locs rfl) (by exact rfl) ?_ (by exact rfl) (by exact rfl) (by exact rfl) (by decide); k_whole)
  intro g L' h₁ tk₁ hgs hsg F N
  replace N := N [] (by intro p hp'; cases hp')
  have gst : hT.StaysIn g := fun b o e => hsg b o (C.st b o e) (by simp)
  have X' := C.X.keeps gst
  have T' := T.keeps gst
  have hlg : g.IsList ax items := hl.at fun o e => hsg _ _ e (by simp)
  have hCtx : ∀ {h : Heap} {m : Str → Option Value}, Fr g L' h m → Ctx w hT h := fun F => ⟨C.X, C.T, fun b o e => F.keep _ _ (gst _ _ e)⟩
  have hTn : ∀ b, g.get? b = none → hT.get? b = none := fun b q => by
    cases e : hT.get? b with
    | none => rfl
    | some o => rw [gst _ _ e] at q; cases q
  try dsimp only
  have hR5 : ∀ r ∈ R, r < 32 := fun r hr => by obtain ⟨i, hi⟩ := List.getElem?_of_mem hr; obtain ⟨_, _, _, _, _, _, _, _, r1⟩ := hR.get hi; exact r1
  (try k_fold); (try k_fold); k_steps
  show wpAny _ _ _ _ _ _
  refine wpAny_For ?_
  (try k_fold); (try k_fold); k_steps
  show wpAny _ _ _ _ _ _
  rename_i hp _ _ h₂ tk₂ F₂ N₂
  refine my_for_listS (items := items) (J1 g hp R) rfl hh (hlg.at fun o e => F₂.keep _ o e) F₂ N₂ (fun e => by obtain ⟨ol, hol, _⟩ := hlg; exact absurd (Heap.lt_size hol) (Nat.not_lt.mpr (e ▸ F₂.above)))
    (fun q hq e => by obtain ⟨ol, hol, _⟩ := hlg; have := (N₂ q hq).2.2; rw [e, hol] at this; cases this) ⟨[], [], 0, [], rfl, (by intro p hp; cases hp), .nil, rfl, (fun i h0 h1 => absurd h1 (Nat.not_lt_zero _)), (fun j => by simp), rfl⟩ ?_ ?_
  · rintro I i v h₃ tk₃ m₁ news₁ extra hi hv ⟨vs, xs, cnt, tups, rfl, hcl, hxs, hxl, hok, hmem, e1⟩ F₃ N₃ hex hI hcls
    clear F₂ N₂
    obtain ⟨r, hr⟩ : ∃ r, R[i]? = some r := ⟨_, List.getElem?_eq_getElem (by rw [← hR.length, Array.length_toList]; exact hi)⟩
    obtain ⟨v', hv', kd, t₃, rfl, k0, k1, r0, r1⟩ := hR.get hr
    rw [show items.toList[i]? = items[i]? from by simp, hv] at hv'
    cases hv'
    replace F₃ := fr_map [("heap", .ref hp)] (by intro p hp'; simp only [List.mem_cons, List.not_mem_nil, or_false] at hp'; subst hp'; assumption) F₃
    clear e1
    simp only [List.cons_append] at N₃
    try dsimp only
    (try k_fold); (try k_fold); k_steps
    show wpAny _ _ _ _ _ _
    rename_i h₄ t₄ tk₄ F₄ N₄
    refine pure_call (imode w hT _ _ _ t₄ _ (by simp only [depth_deeper]; (first | lia | omega)) (by simp only [units_deeper]; (first | lia | omega)) hh (hCtx F₄)) F₄ N₄ ?_
    rintro _ h₅ tk₅ ⟨t₅, rfl⟩ F₅ N₅
    rw [imode_eq k0 k1 (by (first | lia | omega)) (by (first | lia | omega))]
    clear F₄ N₄
    try dsimp only
    (try k_fold); (try k_fold); k_steps
    show wpAny _ _ _ _ _ _
    rename_i h₆ t₆ tk₆ F₆ N₆
    refine pure_call (lcount w hT _ _ _ t₆ _ (by simp only [depth_deeper]; (first | lia | omega)) (by simp only [units_deeper]; (first | lia | omega)) hh (hCtx F₆) (by (first | lia | omega)) (by (first | lia | omega))) F₆ N₆ ?_
    rintro _ h₇ tk₇ ⟨t₇, rfl⟩ F₇ N₇
    rw [pop5N]
    clear F₆ N₆
    try dsimp only
    (try k_fold); (try k_fold); k_steps
    show wpAny _ _ _ _ _ _
    rename_i D h₈ F₈ N₈ hlt
    have hDne : ∀ p ∈ [(D, tupO #[.int (popN r : Int) t₇, .int (r : Int) t₆, .int (r : Int) t₆] 0)], p.1 ≠ hp := by
      intro p hp'; rw [List.mem_singleton] at hp'; subst hp'; exact Nat.ne_of_gt hlt.1
    have Nt8 : News g L' h₈ tups := fun p hp' => N₈ p (.tail _ (.tail _ (List.mem_append_left _ hp')))
    have hpost : ∀ p ∈ tups ++ extra, p.1 ≠ hp := fun p hp' => by
      rcases List.mem_append.mp hp' with hp' | hp'
      · exact tups_ne Nt8 hcl (N₈ _ (.tail _ (.head _))).1 (by simp) p hp'
      · exact hex p hp' _ (.head _)
    have hxs8 : All2 (IsT3 h₈) vs xs := hxs.mono fun _ _ x => (x.tp Nt8 F₈).t3
    have hpl := @popN_le r
    refine push_step (pre := [(D, _)]) (post := tups ++ extra) (k := keyN r r) (by simp only [depth_deeper]; (first | lia | omega)) (by simp only [units_deeper]; (first | lia | omega)) (hCtx F₈) (hTn _ (N₈ _ (.tail _ (.head _))).2.2) F₈ N₈ hDne hpost hxs8 (by
        have := hR.length; rw [Array.length_toList] at this; (first | lia | omega)) hok ⟨D, _, _, _, _, _, _, _, rfl, (N₈ _ (.head _)).1, by (first | lia | omega), by (first | lia | omega), by (first | lia | omega), by (first | lia | omega), by (first | lia | omega), by (first | lia | omega), by unfold keyN rank; (first | lia | omega)⟩ ?_
    intro h₉ tk₉ vs' xs' cnt' tups' F₉ N₉ Nt' hc' hxs' hl' hok' hmem'
    clear F₈ N₈
    simp only [List.cons_append, List.nil_append] at N₉
    try dsimp only
    (try k_fold); (try k_fold); k_steps
    have hI2 : ∀ b ∈ [I, ax], ∀ p ∈ tups', p.1 ≠ b := fun b hb => by
      obtain ⟨o, ho, hco⟩ := hcls b hb
      refine tups_ne Nt' hc' (o := o) ?_ hco
      rcases ho with ho | ho
      · exact F₉.keep _ _ ho
      · exact (N₉ _ (.tail _ (.tail _ (List.mem_append_right _ ho)))).1
    refine ⟨h₉, _, _, (hp, W.listOf vs'.toArray cnt') :: tups', rfl, F₉, ?_, ?_, ⟨vs', xs', cnt', tups', rfl, hc', hxs', by rw [hl', hxl], hok', ?_, rfl⟩⟩
    · intro q hq
      rcases List.mem_cons.mp hq with rfl | hq
      · exact N₉ _ (.tail _ (.head _))
      · rcases List.mem_append.mp hq with hq | hq
        · exact Nt' _ hq
        · exact N₉ _ (.tail _ (.tail _ (List.mem_append_right _ hq)))
    · intro q hq
      rcases List.mem_cons.mp hq with rfl | hq
      · exact hI (hp, W.listOf vs.toArray cnt) (.head _)
      · exact fun hb => hI2 _ hb q hq rfl
    · intro j
      rw [hmem' j, hmem j, List.take_succ, hr]
      constructor
      · rintro (⟨r', h1, h2⟩ | rfl)
        · exact ⟨r', List.mem_append_left _ h1, h2⟩
        · exact ⟨r, List.mem_append_right _ (by simp), rfl⟩
      · rintro ⟨r', h1, h2⟩
        rcases List.mem_append.mp h1 with h1 | h1
        · exact .inl ⟨r', h1, h2⟩
        · simp at h1; subst h1; exact .inr h2
  · rintro h₃ tk₃ m₁ news₁ ⟨vs, xs, cnt, tups, rfl, hcl, hxs, hxl, hok, hmem, e1⟩ F₃ N₃
    clear F₂ N₂
    replace F₃ := fr_map [("heap", .ref hp)] (by intro p hp'; simp only [List.mem_cons, List.not_mem_nil, or_false] at hp'; subst hp'; assumption) F₃
    clear e1
    have hsz : items.size = R.length := by rw [← hR.length, Array.length_toList]
    refine wpAny_execs_nil ?_
    try dsimp only
    (try k_fold); (try k_fold); k_steps
    show wpAny _ _ _ _ _ _
    rename_i lg h₄ _ _ hlt h₅ tk₅ F₅ N₅
    have hne : lg ≠ hp := Nat.ne_of_gt hlt.1
    refine While_inv2 (J2 g hp lg R) F₅ N₅ ?_ ?_ PassesOwn.never (n₀ := 192)
    · refine ⟨vs, [], xs, cnt, 0, tups, 0, rfl, hcl, hxs, .nil, by rw [hxl, hsz]; (first | lia | omega), hok, ?_, by (first | lia | omega), rfl, rfl, rfl⟩
      intro j
      rw [hmem j, hsz, List.take_length]
      constructor
      · rintro ⟨r, hr, rfl⟩
        obtain ⟨i, hi⟩ := List.getElem?_of_mem hr
        obtain ⟨_, _, _, _, _, _, _, _, r1⟩ := hR.get hi
        exact ⟨r, r, rfl, r1, Nat.zero_le _, .inl ⟨rfl, hr⟩⟩
      · rintro ⟨Y, c, rfl, _, _, ⟨rfl, hm⟩ | ⟨_, _, _, _, hl, _⟩⟩
        · exact ⟨_, hm, rfl⟩
        · exact absurd hl (Nat.not_lt_zero _)
    · rintro n m₂ news₂ h₆ tk₆ F₆ N₆ ⟨vs, lvs, xs, cnt, lcnt, tups, T₀, rfl, hcl, hxs, hlvs, hxl, hok, hheap, hT0, rfl, e1, e2⟩
      clear F₅ N₅ hlt
      replace F₆ := fr_map [("heap", .ref hp), ("log", .ref lg)] (by intro p hp'; simp only [List.mem_cons, List.not_mem_nil, or_false] at hp'; rcases hp' with rfl | rfl <;> assumption) F₆
      clear e1 e2
      have hll := logN_len R hT0
      have hx900 : xs.length ≤ 260 := by (first | lia | omega)
      (try k_fold); (try k_fold); k_steps
      · show wpAny _ _ _ _ _ _
        rename_i hpos
        have zlg := N₆ _ (.head _)
        have zhp := N₆ _ (.tail _ (.head _))
        have Nt6 : News g L' h₆ tups := fun p hp' => N₆ p (.tail _ (.tail _ hp'))
        have hpo6 : ∀ p ∈ tups, p.1 ≠ hp := tups_ne Nt6 hcl zhp.1 (by simp)
        refine pop_step (pre := [(lg, _)]) (post := tups) (by simp only [depth_deeper]; (first | lia | omega)) (by simp only [units_deeper]; (first | lia | omega)) (hCtx F₆) (hTn _ zhp.2.2) F₆ N₆ (by simpa using hne) hpo6 (hxs.mono fun _ _ x => (x.tp Nt6 F₆).t3) (by (first | lia | omega)) hpos hok ?_
        rintro a arr na k h₇ tk₇ vs₁ xs₁ cnt₁ tups₁ ha ⟨t1, t2, t3, x, y, z, rfl, x0, x1, y0, y1, z0, z1, hk⟩ F₇ N₇ Nt₁ hc₁ hm₁ hxs₁ hl₁ hok₁ hmem₁ hmin₁
        obtain ⟨Y, c₀, hkY, hE⟩ := (hheap k).mp ((hmem₁ k).mpr (.inl rfl))
        obtain ⟨rfl, rfl, rfl⟩ := key_split hE.1 hE.lt y0 y1 z0 z1 (hkY.symm.trans hk)
        subst hkY
        clear F₆ N₆
        simp only [List.cons_append, List.nil_append] at N₇
        have Nb : News g L' h₇ ((lg, W.listOf lvs.toArray lcnt) :: (hp, W.listOf vs₁.toArray cnt₁) :: (tups₁ ++ tups)) := fun p hp' => by
          rcases List.mem_cons.mp hp' with rfl | hp'
          · exact N₇ _ (.head _)
          · rcases List.mem_cons.mp hp' with rfl | hp'
            · exact N₇ _ (.tail _ (.head _))
            · rcases List.mem_append.mp hp' with hp' | hp'
              · exact Nt₁ _ hp'
              · exact N₇ _ (.tail _ (.tail _ hp'))
        have hcb : ∀ p ∈ tups₁ ++ tups, p.2.cls = .type "tuple" := fun p hp' => (List.mem_append.mp hp').elim (hc₁ p) (hcl p)
        have hxb : All2 (TN S3 g (tups₁ ++ tups)) vs₁ xs₁ := hxs₁.mono fun _ _ x => x.mono fun p hp' => List.mem_append_left _ hp'
        have hlb : All2 (TN (SL R) g (tups₁ ++ tups)) lvs (logN R T₀) := hlvs.mono fun _ _ x => x.mono fun p hp' => List.mem_append_right _ hp'
        clear N₇ Nt₁ hxs₁ hlvs hxs hm₁
        generalize tups₁ ++ tups = tups₂ at Nb hcb hxb hlb
        have hmin : ∀ Y' c', Ent R T₀ Y' c' → rank Y ≤ rank Y' := fun Y' c' h' => by
          have := hmin₁ _ ((hheap _).mpr ⟨Y', c', rfl, h'⟩)
          have h1 := h'.lt
          have h2 := hE.lt
          unfold keyN at this
          (first | lia | omega)
        refine unpackN_ F₇ Nb ha hh rfl rfl fun h₈ F₈ N₈ => ?_
        clear F₇ Nb
        try dsimp only
        (try k_fold); (try k_fold); k_steps
        show wpAny _ _ _ _ _ _
        rename_i h₉ t₉ tk₉ F₉ N₉
        refine While_inv2 (J3 g hp lg R T₀ Y xs lvs lcnt) F₉ N₉ ?_ ?_ PassesOwn.never (n₀ := xs₁.length)
        · refine ⟨vs₁, xs₁, cnt₁, tups₂, [c₀], _, _, t₉, rfl, hcb, hxb, hlb, rfl, by (first | lia | omega), hok₁, fun j hj => (hmem₁ j).mpr (.inr hj), ?_, ?_, ?_, rfl, rfl, ?_, rfl, rfl⟩
          · intro Y' c' h' hne'
            rcases (hmem₁ _).mp ((hheap _).mpr ⟨Y', c', rfl, h'⟩) with e | e
            · exact absurd (key_inj h'.1 hE.1 h'.lt hE.lt e).1 hne'
            · exact e
          · intro c h'
            rcases (hmem₁ _).mp ((hheap _).mpr ⟨Y, c, rfl, h'⟩) with e | e
            · exact .inl (by rw [(key_inj h'.1 hE.1 h'.lt hE.lt e).2]; exact .head _)
            · exact .inr e
          · intro c hc; rw [List.mem_singleton] at hc; subst hc; exact hE
          · show _ = some (Value.int ((31 &&& c₀ : Nat) : Int) t₉)
            rw [and31 hE.lt]; rfl
        · rintro n m₃ news₃ h₁₀ tk₁₀ F₁₀ N₁₀ ⟨vs₃, xs₃, cnt₃, tups₃, cs, u1, u2, u3, rfl, hc₃, hx₃, hl₃, rfl, hn₃, hok₃, hs₃, ho₃, hy₃, hcs₃, e1, e2, e3, e4, e5⟩
          clear F₉ N₉
          replace F₁₀ := fr_map [("many", .int (popN Y : Nat) u1), ("chosen", .int (Y : Nat) u2), ("common", .int (cs.foldl (· &&& ·) 31 : Nat) u3), ("heap", .ref hp), ("log", .ref lg)] (by intro p hp'; simp only [List.mem_cons, List.not_mem_nil, or_false] at hp'; rcases hp' with rfl | rfl | rfl | rfl | rfl <;> assumption) F₁₀
          clear e1 e2 e3 e4 e5
          refine wpAny_mono (Q := TestPost g L' (mapOf [("many", .int (popN Y : Nat) u1), ("chosen", .int (Y : Nat) u2), ("common", .int (cs.foldl (· &&& ·) 31 : Nat) u3), ("heap", .ref hp), ("log", .ref lg)] m₃) ((lg, W.listOf lvs.toArray lcnt) :: (hp, W.listOf vs₃.toArray cnt₃) :: tups₃) s Y xs₃) ?tst (fun b s₂ hb => ?_) (fun _ _ e => e)
          case tst =>
            (try k_fold); (try k_fold); k_steps
            · show wpAny _ _ _ _ _ _
              rename_i hpos₃
              refine sub0 F₁₀ N₁₀ (.tail _ (.head _)) (fun p hp' => N₁₀ p (.tail _ (.tail _ hp'))) hx₃ hpos₃ fun a x y z v1 v2 v3 hta y0 y1 z0 z1 hk0 => ?_
              (try k_fold); (try k_fold); k_steps
              show wpAny _ _ _ _ _ _
              refine item_tupleT hta (by decide) (by decide) rfl rfl ?_
              try dsimp only
              (try k_fold); (try k_fold); k_steps
              · rename_i hyY
                refine ⟨_, _, rfl, F₁₀, N₁₀, (fun _ => ⟨hpos₃, ?_⟩), (fun q => by cases q)⟩
                obtain ⟨Y', c', hk', hE'⟩ := (hheap _).mp (hs₃ _ (gD_mem hpos₃))
                obtain ⟨_, hy', _⟩ := key_split hE'.1 hE'.lt y0 y1 z0 z1 (hk'.symm.trans hk0)
                have : Y' = Y := by (first | lia | omega)
                subst this
                exact ⟨c', hE'.lt, hk'⟩
              · rename_i hyY
                refine ⟨_, _, rfl, F₁₀, N₁₀, (fun q => by cases q), fun _ c hc hm => ?_⟩
                obtain ⟨Y', c', hk', hE'⟩ := (hheap _).mp (hs₃ _ (gD_mem hpos₃))
                obtain ⟨_, hy', _⟩ := key_split hE'.1 hE'.lt y0 y1 z0 z1 (hk'.symm.trans hk0)
                have h1 := hmin_all hok₃ _ hm
                have h2 := hmin Y' c' hE'
                have h3 := hE'.lt
                rw [hk'] at h1
                have h4 : rank Y' = rank Y := by unfold keyN at h1; (first | lia | omega)
                have h5 := d_inj hE'.1 hE.1 h4
                apply hyY
                rw [hy', h5]
            · rename_i hz
              refine ⟨_, _, rfl, F₁₀, N₁₀, (fun q => by cases q), fun _ c _ hm => ?_⟩
              have := List.length_pos_of_mem hm
              exact hz this
          obtain ⟨h₁₁, tk₁₁, rfl, F₁₁, N₁₁, hbt, hbf⟩ := hb
          cases b with
          | true =>
            simp only [if_true]
            obtain ⟨hpos₃, c₁, hc₁, hk₁⟩ := hbt rfl
            try dsimp only
            (try k_fold); (try k_fold); k_steps
            show wpAny _ _ _ _ _ _
            have zhp₁ := N₁₁ _ (.tail _ (.head _))
            have Nt₁₁ : News g L' h₁₁ tups₃ := fun p hp' => N₁₁ p (.tail _ (.tail _ hp'))
            refine pop_step (pre := [(lg, _)]) (post := tups₃) (by simp only [depth_deeper]; (first | lia | omega)) (by simp only [units_deeper]; (first | lia | omega)) (hCtx F₁₁) (hTn _ zhp₁.2.2) F₁₁ N₁₁ (by simpa using hne) (tups_ne Nt₁₁ hc₃ zhp₁.1 (by simp)) (hx₃.mono fun _ _ x => (x.tp Nt₁₁ F₁₁).t3) (by (first | lia | omega)) hpos₃ hok₃ ?_
            rintro b₁ arr₁ nb k₁ h₁₂ tk₁₂ vs₄ xs₄ cnt₄ tups₄ hb₁ ⟨q1, q2, q3, x', y', z', rfl, x0', x1', y0', y1', z0', z1', hk'⟩ F₁₂ N₁₂ Nt₄ hc₄ hm₄ hxs₄ hl₄ hok₄ hmem₄ hmin₄
            have hkk : k₁ = keyN Y c₁ := by
              have a1 := hmin₄ _ (gD_mem hpos₃)
              have a2 := hmin_all hok₃ _ ((hmem₄ k₁).mpr (.inl rfl))
              rw [← hk₁]; (first | lia | omega)
            subst hkk
            obtain ⟨Y', c', hkY', hE'⟩ := (hheap _).mp (hs₃ _ ((hmem₄ _).mpr (.inl rfl)))
            obtain ⟨eY, ec⟩ := key_inj hE.1 hE'.1 hc₁ hE'.lt hkY'
            subst eY ec
            obtain ⟨rfl, rfl, rfl⟩ := key_split hE.1 hc₁ y0' y1' z0' z1' hk'
            simp only [List.cons_append, List.nil_append] at N₁₂
            have Nb : News g L' h₁₂ ((lg, W.listOf lvs.toArray lcnt) :: (hp, W.listOf vs₄.toArray cnt₄) :: (tups₄ ++ tups₃)) := fun p hp' => by
              rcases List.mem_cons.mp hp' with rfl | hp'
              · exact N₁₂ _ (.head _)
              · rcases List.mem_cons.mp hp' with rfl | hp'
                · exact N₁₂ _ (.tail _ (.head _))
                · rcases List.mem_append.mp hp' with hp' | hp'
                  · exact Nt₄ _ hp'
                  · exact N₁₂ _ (.tail _ (.tail _ hp'))
            have hcb : ∀ p ∈ tups₄ ++ tups₃, p.2.cls = .type "tuple" := fun p hp' => (List.mem_append.mp hp').elim (hc₄ p) (hc₃ p)
            have hxb : All2 (TN S3 g (tups₄ ++ tups₃)) vs₄ xs₄ := hxs₄.mono fun _ _ x => x.mono fun p hp' => List.mem_append_left _ hp'
            have hlb : All2 (TN (SL R) g (tups₄ ++ tups₃)) lvs (logN R T₀) := hl₃.mono fun _ _ x => x.mono fun p hp' => List.mem_append_right _ hp'
            clear Nt₁₁ F₁₁ N₁₁ N₁₂ Nt₄ hxs₄ hl₃ hx₃ hm₄ F₁₀ N₁₀
            generalize tups₄ ++ tups₃ = tups₅ at Nb hcb hxb hlb
            try dsimp only
            (try k_fold); (try k_fold); k_steps
            show wpAny _ _ _ _ _ _
            refine item_tupleT (l := [_, _, _]) hb₁ (by decide) (by decide) rfl rfl ?_
            try dsimp only
            (try k_fold); (try k_fold); k_steps
            show wpAny _ _ _ _ _ _
            refine iandI fun t₁₃ tk₁₃ => ?_
            rw [bitAnd_nat (Nat.lt_succ_of_le (foldl_le cs 31)) hc₁]
            try dsimp only
            (try k_fold); (try k_fold); k_steps
            rename_i h₁₄ t₁₄ tk₁₄ F₁₄ N₁₄
            refine ⟨h₁₄, tk₁₄, _, _, xs₄.length, rfl, F₁₄, N₁₄, by (first | lia | omega), ?_⟩
            refine ⟨vs₄, xs₄, cnt₄, tups₅, cs ++ [c₁], u1, u2, t₁₄, rfl, hcb, hxb, hlb, rfl, by (first | lia | omega), hok₄, fun j hj => hs₃ j ((hmem₄ j).mpr (.inr hj)), ?_, ?_, ?_, rfl, rfl, ?_, rfl, rfl⟩
            · intro Y' c' h' hne'
              rcases (hmem₄ _).mp (ho₃ Y' c' h' hne') with e | e
              · exact absurd (key_inj h'.1 hE.1 h'.lt hc₁ e).1 hne'
              · exact e
            · intro c h'
              rcases hy₃ c h' with e | e
              · exact .inl (List.mem_append_left _ e)
              · rcases (hmem₄ _).mp e with e | e
                · exact .inl (List.mem_append_right _ (by rw [(key_inj h'.1 hE.1 h'.lt hc₁ e).2]; exact .head _))
                · exact .inr e
            · intro c hc
              rcases List.mem_append.mp hc with hc | hc
              · exact hcs₃ c hc
              · rw [List.mem_singleton] at hc; subst hc; exact hE'
            · rw [List.foldl_append]; rfl
          | false =>
            simp only [Bool.false_eq_true, if_false]
            have hcm : cs.foldl (· &&& ·) 31 = Zc R Y := by
              refine common_is (fun r hr => by obtain ⟨i, hi⟩ := List.getElem?_of_mem hr; obtain ⟨_, _, _, _, _, _, _, _, r1⟩ := hR.get hi; exact r1) hE.1 hE.2.1 hmin (Nat.lt_succ_of_le (foldl_le cs 31)) fun b hb => ?_
              rw [foldl_bit, t_31 ⟨b, hb⟩, Bool.true_and, List.all_eq_true]
              constructor
              · intro hh' c' h'
                rcases hy₃ c' h' with e | e
                · exact hh' c' e
                · exact absurd e (hbf rfl c' h'.lt)
              · intro hh' c hc
                exact hh' c (hcs₃ c hc)
            have hzl := Zc_lt R Y
            rw [hcm] at F₁₁
            have hlv1 : lvs.length < 1000 := by have := hl₃.length; (first | lia | omega)
            clear F₁₀ N₁₀
            try dsimp only
            (try k_fold); (try k_fold); k_steps
            show wpAny _ _ _ _ _ _
            refine pure_call (pretty w hT _ _ _ u3 _ (by simp only [depth_deeper]; (first | lia | omega)) (by simp only [units_deeper]; (first | lia | omega)) hh (hCtx F₁₁) (by (first | lia | omega)) (by (first | lia | omega))) F₁₁ N₁₁ ?_
            rintro _ h₁₂ tk₁₂ ⟨t₁₂, rfl⟩ F₁₂ N₁₂
            have hlt3 : ∀ p ∈ tups₃, p.1 ≠ lg := tups_ne (fun p hp' => N₁₂ p (.tail _ (.tail _ hp'))) hc₃ (N₁₂ _ (.head _)).1 (by simp)
            have hht3 : ∀ p ∈ tups₃, p.1 ≠ hp := tups_ne (fun p hp' => N₁₂ p (.tail _ (.tail _ hp'))) hc₃ (N₁₂ _ (.tail _ (.head _))).1 (by simp)
            have hne2 : hp ≠ lg := Ne.symm hne
            clear F₁₁ N₁₁
            try dsimp only
            (try k_fold); (try k_fold); k_steps
            show wpAny _ _ _ _ _ _
            rename_i D _ _ h₁₃ F₁₃ N₁₃
            have Nr : News g L' h₁₃ ((lg, W.listOf (lvs ++ [Value.ref D]).toArray (lcnt + 1)) :: (hp, W.listOf vs₃.toArray cnt₃) :: ((D, tupO #[.int (Y : Nat) u2, .str (pf (Zc R Y : Nat)) t₁₂] 0) :: tups₃)) := fun p hp' => by
              rcases List.mem_cons.mp hp' with rfl | hp'
              · exact N₁₃ _ (.tail _ (.head _))
              · rcases List.mem_cons.mp hp' with rfl | hp'
                · exact N₁₃ _ (.tail _ (.tail _ (.head _)))
                · rcases List.mem_cons.mp hp' with rfl | hp'
                  · exact N₁₃ _ (.head _)
                  · exact N₁₃ _ (.tail _ (.tail _ (.tail _ hp')))
            have hcr : ∀ p ∈ (D, tupO #[.int (Y : Nat) u2, .str (pf (Zc R Y : Nat)) t₁₂] 0) :: tups₃, p.2.cls = .type "tuple" := fun p hp' => by
              rcases List.mem_cons.mp hp' with rfl | hp'
              · rfl
              · exact hc₃ p hp'
            have hxr : All2 (TN S3 g ((D, tupO #[.int (Y : Nat) u2, .str (pf (Zc R Y : Nat)) t₁₂] 0) :: tups₃)) vs₃ xs₃ := hx₃.mono fun _ _ x => x.mono fun p hp' => .tail _ hp'
            have hlr : All2 (TN (SL R) g ((D, tupO #[.int (Y : Nat) u2, .str (pf (Zc R Y : Nat)) t₁₂] 0) :: tups₃)) (lvs ++ [Value.ref D]) (logN R T₀ ++ [Y]) :=
              (hl₃.mono fun _ _ x => x.mono fun p hp' => .tail _ hp').snoc ⟨D, _, 0, rfl, .inl (.head _), _, _, rfl⟩
            clear N₁₃ hx₃ hl₃
            generalize (D, tupO #[.int (Y : Nat) u2, .str (pf (Zc R Y : Nat)) t₁₂] 0) :: tups₃ = tups₆ at Nr hcr hxr hlr
            refine wpAny_For ?_
            (try k_fold); (try k_fold); k_steps
            show wpAny _ _ _ _ _ _
            rename_i R₅ h₁₅ tk₁₅ p1 p2 p3 hR₅ F₁₅ N₁₅
            refine my_for_rangeS (n := 5) (J4 g hp lg R T₀ Y xs₃) rfl hh hR₅ (by (first | lia | omega)) F₁₅ N₁₅ ⟨vs₃, lvs ++ [Value.ref D], xs₃, cnt₃, lcnt + 1, tups₆, u1, u2, u3, rfl, hcr, hxr, hlr, Nat.le_refl _, hok₃, (fun j => by simp), rfl, rfl, rfl, rfl, rfl⟩ ?_ ?_
            · rintro I i w₁ h₁₆ tk₁₆ m₆ news₆ extra hi ⟨vs₆, lvs₆, xs₆, cnt₆, lcnt₆, tups₇, v1, v2, v3, rfl, hc₆, hx₆, hl₆, hn₆, hok₆, hm₆, e1, e2, e3, e4, e5⟩ F₁₆ N₁₆ hex hI hcls
              clear F₁₅ N₁₅
              replace F₁₆ := fr_map [("many", .int (popN Y : Nat) v1), ("chosen", .int (Y : Nat) v2), ("common", .int (Zc R Y : Nat) v3), ("heap", .ref hp), ("log", .ref lg)] (by intro p hp'; simp only [List.mem_cons, List.not_mem_nil, or_false] at hp'; rcases hp' with rfl | rfl | rfl | rfl | rfl <;> assumption) F₁₆
              clear e1 e2 e3 e4 e5
              simp only [List.cons_append] at N₁₆
              try dsimp only
              (try k_fold); (try k_fold); k_steps
              · show wpAny _ _ _ _ _ _
                rename_i h₁₇ w₂ tk₁₇ t₁₈ tk₁₈ hbit w₃ tk₁₉ D₂ h₁₈ F₁₈ N₁₈ hlt₂
                rw [Int.toNat_natCast, bit_cast] at hbit
                have hb0 : Y.testBit i = false := by rw [testBit_div]; simp; (first | lia | omega)
                obtain ⟨hu1, hu2, hu3⟩ := d_up hE.1 hi hb0
                have hz5 := @popN_le (Y + 2 ^ i)
                have hpw : ((2 : Int) ^ i) = ((2 ^ i : Nat) : Int) := by rw [Int.natCast_pow]; rfl
                have hy0 : (0 : Int) ≤ (Y : Int) + 2 ^ i := by rw [hpw]; exact Int.add_nonneg (Int.natCast_nonneg _) (Int.natCast_nonneg _)
                have zhp₂ := N₁₈ _ (.tail _ (.tail _ (.head _)))
                have zlg₂ := N₁₈ _ (.tail _ (.head _))
                have zD₂ := N₁₈ _ (.head _)
                have Nt₈ : News g L' h₁₈ tups₇ := fun p hp' => N₁₈ p (.tail _ (.tail _ (.tail _ (List.mem_append_left _ hp'))))
                have hpost₈ : ∀ p ∈ tups₇ ++ extra, p.1 ≠ hp := fun p hp' => by
                  rcases List.mem_append.mp hp' with hp' | hp'
                  · exact tups_ne Nt₈ hc₆ zhp₂.1 (by simp) p hp'
                  · exact hex p hp' _ (.tail _ (.head _))
                refine push_step (pre := [(D₂, _), (lg, _)]) (post := tups₇ ++ extra) (k := keyN (Y + 2 ^ i) (Zc R Y)) (by simp only [depth_deeper]; (first | lia | omega)) (by simp only [units_deeper]; (first | lia | omega)) (hCtx F₁₈) (hTn _ zhp₂.2.2) F₁₈ N₁₈ (by
                    intro p hp'
                    rcases List.mem_cons.mp hp' with rfl | hp'
                    · exact Nat.ne_of_gt hlt₂.2.1
                    · rw [List.mem_singleton] at hp'; subst hp'; exact hne) hpost₈ (hx₆.mono fun _ _ x => (x.tp Nt₈ F₁₈).t3) (by (first | lia | omega)) hok₆ ⟨D₂, _, _, _, _, _, _, _, rfl, zD₂.1, by (first | lia | omega), by (first | lia | omega), hy0, by rw [hpw]; (first | lia | omega), by (first | lia | omega), by (first | lia | omega), by rw [hpw]; unfold keyN rank; (first | lia | omega)⟩ ?_
                intro h₁₉ tk₂₀ vs' xs' cnt' tups' F₁₉ N₁₉ Nt' hc' hxs' hl' hok' hmem'
                clear F₁₈ N₁₈
                simp only [List.cons_append, List.nil_append] at N₁₉
                try dsimp only
                (try k_fold); (try k_fold); k_steps
                have hI2 : ∀ b ∈ [I], ∀ p ∈ tups', p.1 ≠ b := fun b hb => by
                  obtain ⟨o, ho, hco⟩ := hcls b hb
                  refine tups_ne Nt' hc' (o := o) ?_ hco
                  rcases ho with ho | ho
                  · exact F₁₉.keep _ _ ho
                  · exact (N₁₉ _ (.tail _ (.tail _ (.tail _ (List.mem_append_right _ ho))))).1
                refine ⟨h₁₉, _, _, (lg, W.listOf lvs₆.toArray lcnt₆) :: (hp, W.listOf vs'.toArray cnt') :: (tups' ++ tups₇), rfl, F₁₉, ?_, ?_, ⟨vs', lvs₆, xs', cnt', lcnt₆, tups' ++ tups₇, v1, v2, v3, rfl, ?_, ?_, ?_, by (first | lia | omega), hok', ?_, rfl, rfl, rfl, rfl, rfl⟩⟩
                · intro q hq
                  rcases List.mem_append.mp hq with hq | hq
                  · rcases List.mem_cons.mp hq with rfl | hq
                    · exact N₁₉ _ (.tail _ (.head _))
                    · rcases List.mem_cons.mp hq with rfl | hq
                      · exact N₁₉ _ (.tail _ (.tail _ (.head _)))
                      · rcases List.mem_append.mp hq with hq | hq
                        · exact Nt' _ hq
                        · exact N₁₉ _ (.tail _ (.tail _ (.tail _ (List.mem_append_left _ hq))))
                  · exact N₁₉ _ (.tail _ (.tail _ (.tail _ (List.mem_append_right _ hq))))
                · intro q hq
                  rcases List.mem_cons.mp hq with rfl | hq
                  · exact hI (lg, W.listOf lvs₆.toArray lcnt₆) (.head _)
                  · rcases List.mem_cons.mp hq with rfl | hq
                    · exact hI (hp, W.listOf vs₆.toArray cnt₆) (.tail _ (.head _))
                    · rcases List.mem_append.mp hq with hq | hq
                      · exact fun hb => hI2 _ hb q hq rfl
                      · exact hI q (.tail _ (.tail _ hq))
                · exact fun p hp' => (List.mem_append.mp hp').elim (hc' p) (hc₆ p)
                · exact hxs'.mono fun _ _ x => x.mono fun p hp' => List.mem_append_left _ hp'
                · exact hl₆.mono fun _ _ x => x.mono fun p hp' => List.mem_append_right _ hp'
                · intro j
                  rw [hmem' j, hm₆ j]
                  constructor
                  · rintro ((h | ⟨k, h1, h2, h3⟩) | rfl)
                    · exact .inl h
                    · exact .inr ⟨k, by (first | lia | omega), h2, h3⟩
                    · exact .inr ⟨i, Nat.lt_succ_self _, hb0, rfl⟩
                  · rintro (h | ⟨k, h1, h2, h3⟩)
                    · exact .inl (.inl h)
                    · rcases Nat.lt_or_eq_of_le (Nat.le_of_lt_succ h1) with h | h
                      · exact .inl (.inr ⟨k, h, h2, h3⟩)
                      · subst h; exact .inr h3
              · rename_i h₁₇ w₂ tk₁₇ F₁₇ N₁₇ _ _ _ _ hbit
                rw [Int.toNat_natCast, bit_cast] at hbit
                have hb1 : Y.testBit i = true := by rw [testBit_div]; simp; (first | lia | omega)
                refine ⟨h₁₇, _, _, (lg, W.listOf lvs₆.toArray lcnt₆) :: (hp, W.listOf vs₆.toArray cnt₆) :: tups₇, rfl, F₁₇, N₁₇, hI, ⟨vs₆, lvs₆, xs₆, cnt₆, lcnt₆, tups₇, v1, v2, v3, rfl, hc₆, hx₆, hl₆, by (first | lia | omega), hok₆, fun j => (hm₆ j).trans ?_, rfl, rfl, rfl, rfl, rfl⟩⟩
                constructor
                · rintro (h | ⟨k, h1, h2, h3⟩)
                  · exact .inl h
                  · exact .inr ⟨k, by (first | lia | omega), h2, h3⟩
                · rintro (h | ⟨k, h1, h2, h3⟩)
                  · exact .inl h
                  · rcases Nat.lt_or_eq_of_le (Nat.le_of_lt_succ h1) with h | h
                    · exact .inr ⟨k, h, h2, h3⟩
                    · subst h; rw [hb1] at h2; cases h2
            · rintro h₁₆ tk₁₆ m₆ news₆ ⟨vs₆, lvs₆, xs₆, cnt₆, lcnt₆, tups₇, v1, v2, v3, rfl, hc₆, hx₆, hl₆, hn₆, hok₆, hm₆, e1, e2, e3, e4, e5⟩ F₁₆ N₁₆
              refine wpAny_execs_nil ?_
              show wpAny _ _ _ _ _ _
              refine wpAny_execs_nil ?_
              have hls := log_step hR5 hE hmin
              have hne5 := next_ent hR5 hE hmin
              have hE1 := hE.2.1
              have hE2 := (d_rank hE.1).1
              refine ⟨h₁₆, tk₁₆, _, _, 192 - (rank Y + 1), rfl, F₁₆, N₁₆, ?_, ⟨vs₆, lvs₆, xs₆, cnt₆, lcnt₆, tups₇, rank Y + 1, rfl, hc₆, hx₆, ?_, ?_, hok₆, ?_, ?_, rfl, e4, e5⟩⟩
              · (first | lia | omega)
              · rw [hls]; exact hl₆
              · rw [hls, List.length_append, List.length_singleton]; (first | lia | omega)
              · intro j
                rw [hm₆ j]
                constructor
                · rintro (h | ⟨k, h1, h2, rfl⟩)
                  · obtain ⟨Y', c', rfl, h'⟩ := (hheap j).mp (hs₃ j h)
                    exact ⟨Y', c', rfl, (hne5 Y' c').mpr (.inl ⟨h', fun e => hbf rfl c' h'.lt (e ▸ h)⟩)⟩
                  · exact ⟨_, _, rfl, (hne5 _ _).mpr (.inr ⟨k, h1, h2, rfl, rfl⟩)⟩
                · rintro ⟨Y', c', rfl, h'⟩
                  rcases (hne5 Y' c').mp h' with ⟨h1, h2⟩ | ⟨k, h1, h2, rfl, rfl⟩
                  · exact .inl (ho₃ Y' c' h1 h2)
                  · exact .inr ⟨k, h1, h2, rfl⟩
              · (first | lia | omega)
      · rename_i tk₂ hpos
        have hx0 : xs = [] := List.eq_nil_of_length_eq_zero (by (first | lia | omega))
        have hno : ∀ Y c, ¬ Ent R T₀ Y c := fun Y c h => by
          have := (hheap _).mpr ⟨Y, c, rfl, h⟩
          rw [hx0] at this; cases this
        rw [log_end hR5 hT0 hno] at hlvs
        show LogPost R s (.ref lg) _
        refine ⟨lg, h₆, tk₂, lvs, lcnt, rfl, rfl, fun b o e => F₆.keep _ _ (hsg _ _ e (by simp)), (N₆ _ (.head _)).1, ?_, hlvs.mono fun _ _ x => x.tp (fun p hp => N₆ p (.tail _ (.tail _ hp))) F₆⟩
        cases e : s.heap.get? lg with
        | none => rfl
        | some o => have := (N₆ _ (.head _)).2.2; rw [hsg _ _ e (by simp)] at this; cases this
end Mine
end
section
-- M2
open PySem PySem.W PyProof.Rows PySem.Calls PySem.Spec
namespace Mine
theorem All2.of_map {α β γ : Type} {R : α → γ → Prop} {f : β → γ} : ∀ {ys : List α} {xs : List β}, All2 (fun y x => R y (f x)) ys xs → All2 R ys (xs.map f)
  | _, _, .nil => .nil
  | _, _, .cons r t => .cons r (All2.of_map t)
theorem All2.of_some {α γ : Type} {R : α → γ → Prop} : ∀ {ys : List α} {l : List γ}, All2 (fun y e => ∃ x, e = some x ∧ R y x) ys (l.map some) → All2 R ys l
  | _, [], .nil => .nil
  | _, _ :: _, .cons ⟨_, e, r⟩ t => .cons (by cases e; exact r) (All2.of_some t)
theorem range_get {γ : Type} (l : List γ) : (List.range l.length).map (l[·]?) = l.map some := by
  apply List.ext_getElem?
  intro i
  by_cases h : i < l.length
  · simp [h]
  · simp [h]
theorem All2.ofIdx {α γ : Type} {R : α → γ → Prop} {ys : List α} {l : List γ} (h : All2 (fun y j => ∃ e, l[j]? = some e ∧ R y e) ys (List.range l.length)) : All2 R ys l := by
  refine All2.of_some ?_
  rw [← range_get]
  exact All2.of_map h
theorem filter_true {α : Type} (l : List α) : l.filter (fun _ => true) = l := by induction l <;> simp_all
/-- a comprehension without tests over a list of known length, with one new tuple for each item -/
theorem Made.tups {γ : Type} {S : γ → Array Value → Prop} {g h : Heap} {L D : Addr} {s₁ : Shared} {ys : List Value} {l : List γ} {n : Nat} (hn : n = l.length)
    (M : Made g h L D s₁ (fun i y objs => ∃ a arr e, y = .ref a ∧ objs = [(a, tupO arr 0)] ∧ l[i]? = some e ∧ S e arr) ys ((List.range n).filter fun _ => true)) : All2 (TP S h) ys l := by
  subst hn
  rw [filter_true] at M
  refine All2.ofIdx (M.mono ?_)
  rintro y j ⟨objs, ⟨a, arr, e, rfl, rfl, he, hS⟩, ho⟩
  exact ⟨e, he, a, arr, 0, rfl, (ho _ (.head _)).1, hS⟩
theorem Made.vals {γ : Type} {R : Value → γ → Prop} {g h : Heap} {L D : Addr} {s₁ : Shared} {ys : List Value} {l : List γ} {n : Nat} (hn : n = l.length)
    (M : Made g h L D s₁ (fun i y _ => ∃ e, l[i]? = some e ∧ R y e) ys ((List.range n).filter fun _ => true)) : All2 R ys l := by
  subst hn
  rw [filter_true] at M
  exact All2.ofIdx (M.mono fun y j ⟨_, h, _⟩ => h)
theorem All2.toInts : ∀ {ys : List Value} {l : List Int}, All2 (fun y e => ∃ t, y = .int e t) ys l → IntsAre ys l
  | _, _, .nil => .nil
  | _, _, .cons ⟨_, e⟩ t => by subst e; exact .cons _ _ (All2.toInts t)
theorem All2.toStrs : ∀ {ys : List Value} {l : List Str}, All2 (fun y e => ∃ t, y = Value.str e t) ys l → StrsAre ys l
  | _, _, .nil => .nil
  | _, _, .cons ⟨_, e⟩ t => by subst e; exact .cons _ _ (All2.toStrs t)
theorem news_sub {g h : Heap} {L : Addr} {a b : List (Addr × Obj)} (N : News g L h a) (hs : ∀ p ∈ b, p ∈ a) : News g L h b := N.perm hs
theorem news_app {g h : Heap} {L : Addr} {a b : List (Addr × Obj)} (N : News g L h a) (N' : News g L h b) : News g L h (a ++ b) := N.append N'
/-- a pair of ints in a tuple -/
noncomputable def S2 (e : Int × Int) (arr : Array Value) : Prop := ∃ t1 t2, arr = #[.int e.1 t1, .int e.2 t2]
noncomputable def numOf2 (v : Int) : Int × Int := ((v.fdiv 31).fmod 16, v.fmod 31 + 1)
noncomputable def nums (ns : List Int) : List (Int × Int) := (ns.take 3 ++ [11, 5]).map numOf2
theorem nums_len (ns : List Int) : (nums ns).length ≤ 5 ∧ 2 ≤ (nums ns).length := by
  unfold nums; simp; (first | lia | omega)
theorem nums_rng {ns : List Int} {e : Int × Int} (h : e ∈ nums ns) : 0 ≤ e.1 ∧ e.1 < 16 ∧ 1 ≤ e.2 ∧ e.2 < 32 := by
  unfold nums at h
  obtain ⟨v, _, rfl⟩ := List.mem_map.mp h
  unfold numOf2
  have a1 := Int.fmod_nonneg_of_pos (v.fdiv 31) (b := 16) (by decide)
  have a2 := Int.fmod_lt_of_pos (v.fdiv 31) (b := 16) (by decide)
  have b1 := Int.fmod_nonneg_of_pos v (b := 31) (by decide)
  have b2 := Int.fmod_lt_of_pos v (b := 31) (by decide)
  dsimp only
  (first | lia | omega)
end Mine
end
section
-- M3
open PySem PySem.W PyProof.Rows PySem.Calls PySem.Spec
namespace Mine
section
variable {prog : Program} {w : World} {A : Around} {E E' : Value → Shared → Prop} {s : Shared} {env : Env} {g : Heap}

theorem It.pin {target : Expr} {I ax : Addr} {fp wr : List Addr} {n : Nat} {P : Nat → Value → Heap → Prop} {St : Nat → Heap → Prop} {o : Obj} (W : It prog w A target I fp wr n P St) (hf : ax ∈ fp) (hw : ax ∉ wr) :
    It prog w A target I fp wr n P (fun i h => St i h ∧ h.get? ax = some o) := by
  obtain ⟨Md, K⟩ := W.turns
  refine ⟨⟨fun i v h => Md i v h ∧ h.get? ax = some o, K.sub, fun i h h' st k => ⟨K.frame i h h' st.1 k, k ax hf o st.2⟩, fun i s Q E hi st q => K.item i s Q E hi st.1 fun v h' tk md k => q v h' tk ⟨md, k ax o hw st.2⟩ k, fun i v s Q E md q => K.go i v s Q E md.1 fun h' p st k => q h' p ⟨st, k ax o hw md.2⟩ k,
    fun s Q E st => K.done s Q E st.1⟩, fun i h st => W.live i h st.1, fun i s Q E st => W.self i s Q E st.1⟩
theorem my_for_listN {target : Expr} {body orelse : List Stmt} {ax : Addr} {items : Array Value} {cnt : Nat} {Q : Flow → Shared → Prop} {m : Str → Option Value} {news : List (Addr × Obj)}
    (J : Nat → (Str → Option Value) → List (Addr × Obj) → Prop) (ht : plainTarget target = true) (hh : A.handled = none) 
    (F : Fr g env.locals s.heap m) (N' : News g env.locals s.heap ((ax, W.listOf items cnt) :: news)) (hn : ∀ q ∈ news, q.1 ≠ ax) (hJ : J 0 m news)
    (turn : ∀ I i v h tk m₁ news₁ extra, i < items.size → items[i]? = some v → J i m₁ news₁ → Fr g env.locals h m₁ → News g env.locals h (news₁ ++ extra) → (∀ p ∈ extra, ∀ q ∈ news₁, p.1 ≠ q.1) → (∀ q ∈ news₁, q.1 ∉ [I, ax]) →
      (∀ b ∈ [I, ax], ∃ o, (g.get? b = some o ∨ (b, o) ∈ extra) ∧ o.cls ≠ .type "tuple") →
      wpAny (model prog w) A (assign target env v) (fun _ s₂ => wpAny (model prog w) A (execs body env) (ForPost g env.locals [I, ax] s (J (i + 1)) extra Q) (fun _ _ => False) s₂) (fun _ _ => False) { s with heap := h, toks := tk })
    (done : ∀ h tk m₁ news₁, J items.size m₁ news₁ → Fr g env.locals h m₁ → News g env.locals h ((ax, W.listOf items cnt) :: news₁) → wpAny (model prog w) A (execs orelse env) Q (fun _ _ => False) { s with heap := h, toks := tk }) :
    wpAny (model prog w) A (pyIter (.ref ax)) (fun it s₂ => codeAny (model prog w) A (.forLoop target it body orelse env) (fun r s' => match r with | .ok f => Q f s' | .error e => cameBackBy (model prog w) A env E e s') s₂) E' s := by
  have hl : s.heap.IsList ax items := PySem.IsL.isList (N' _ (.head _)).1
  have N : News g env.locals s.heap news := fun p hp => N' p (.tail _ hp)
  have hL : env.locals ≠ ax := fun e => (N' _ (.head _)).2.1 e.symm
  have hlt : ax < s.heap.objs.size := by obtain ⟨o, ho, _⟩ := hl; exact Heap.lt_size ho
  refine wpAny_pyIter_list hl ?_
  have hnone : s.heap.get? s.heap.objs.size = none := by
    cases e : s.heap.get? s.heap.objs.size with
    | none => rfl
    | some o => exact absurd (Heap.lt_size e) (Nat.lt_irrefl _)
  have up : ∀ b o, s.heap.get? b = some o → (s.heap.push { cls := .type "list_iterator", data := .fields #[.ref ax, .int 0 0] }).get? b = some o := fun b o e => Heap.get?_push_of_some _ e
  have hIL : env.locals ≠ s.heap.objs.size := Nat.ne_of_lt F.ns.lt
  refine my_forLoopT (g := g) (fp := [s.heap.objs.size, ax]) J ((It.list (target := target) ht hh s.heap.objs.size ax (Nat.ne_of_lt hlt) items).pin (o := W.listOf items cnt) (.tail _ (.head _)) (by intro hm; rw [List.mem_singleton] at hm; exact absurd hm (Nat.ne_of_lt hlt))) ⟨⟨⟨_, Heap.get?_push_size _ rfl, rfl, rfl⟩, hl.at fun o e => up _ o e⟩, up _ _ (N' _ (.head _)).1⟩ (fr_up F up) (news_up N up) (fun hb => ?_) (fun b hb => ?_) (fun q hq hb => ?_) hJ ?_ ?_
  · rcases List.mem_cons.mp hb with e | hb
    · exact hIL e
    · exact hL (List.mem_singleton.mp hb)
  · rw [List.mem_singleton] at hb; subst hb
    cases e : g.get? s.heap.objs.size with
    | none => rfl
    | some o => have := F.keep _ _ e; rw [hnone] at this; cases this
  · rcases List.mem_cons.mp hb with e | hb
    · have := (N q hq).1; rw [e, hnone] at this; cases this
    · exact hn q hq (List.mem_singleton.mp hb)
  · rintro i v h tk m₁ news₁ extra hi hP hJ₁ F₁ N₁ he hn₁ st hfx
    refine for_base (turn _ i v h tk m₁ news₁ extra hi hP hJ₁ F₁ N₁ (fun p hp q hq e => hn₁ q hq (e ▸ he p hp)) hn₁ fun b hb => ?_)
    rcases List.mem_cons.mp hb with rfl | hb'
    · obtain ⟨⟨⟨o, ho, hc, _⟩, _⟩, _⟩ := st
      exact ⟨o, hfx _ hb o ho, by rw [hc]; decide⟩
    · rw [List.mem_singleton] at hb'; subst hb'
      obtain ⟨⟨_, ⟨o, ho, hc, _⟩⟩, _⟩ := st
      exact ⟨o, hfx _ hb o ho, by rw [hc]; decide⟩
  · rintro h tk m₁ news₁ ⟨h₀, st, hk⟩ hJ₁ F₁ N₁
    refine done h tk m₁ news₁ hJ₁ F₁ fun p hp => ?_
    rcases List.mem_cons.mp hp with rfl | hp
    · exact ⟨hk _ _ (by intro hm; rw [List.mem_singleton] at hm; exact absurd hm (Nat.ne_of_lt hlt)) st.2, (N' _ (.head _)).2⟩
    · exact N₁ p hp

end
end Mine
end
section
-- M4
open PySem PySem.W PyProof.Rows PySem.Calls PySem.Spec
namespace Mine
section
variable {prog : Program} {w : World} {A : Around} {E E' : Value → Shared → Prop} {s : Shared} {env : Env} {g : Heap}
theorem It.wider {target : Expr} {I : Addr} {fp wr wr' : List Addr} {n : Nat} {P : Nat → Value → Heap → Prop} {St : Nat → Heap → Prop} (W : It prog w A target I fp wr n P St) (h1 : ∀ b ∈ wr, b ∈ wr') (h2 : ∀ b ∈ wr', b ∈ fp) :
    It prog w A target I fp wr' n P St := by
  obtain ⟨Md, K⟩ := W.turns
  have kept : ∀ {h h' : Heap}, (∀ b o, b ∉ wr → h.get? b = some o → h'.get? b = some o) → ∀ b o, b ∉ wr' → h.get? b = some o → h'.get? b = some o := fun k b o hb => k b o fun q => hb (h1 b q)
  exact ⟨⟨Md, h2, K.frame, fun i s Q E hi st q => K.item i s Q E hi st fun v h' tk md k => q v h' tk md (kept k), fun i v s Q E md q => K.go i v s Q E md fun h' p st k => q h' p st (kept k),
    fun s Q E st q => K.done s Q E st fun h' tk k => q h' tk (kept k)⟩, W.live, W.self⟩
/-- five new objects -/
theorem five {h : Heap} {o1 o2 o3 o4 o5 : Obj} (l1 : o1.isFreed = false) (l2 : o2.isFreed = false) (l3 : o3.isFreed = false) (l4 : o4.isFreed = false) (l5 : o5.isFreed = false) {H : Heap} (hH : H = ((((h.push o1).push o2).push o3).push o4).push o5) {n : Nat} (hn : h.objs.size = n) :
    H.objs.size = n + 5 ∧ H.get? n = some o1 ∧ H.get? (n + 1) = some o2 ∧ H.get? (n + 2) = some o3 ∧ H.get? (n + 3) = some o4 ∧ H.get? (n + 4) = some o5 ∧ ∀ c, c < n → H.get? c = h.get? c := by
  subst hH
  have s1 : (h.push o1).objs.size = n + 1 := by rw [Heap.size_push, hn]
  have s2 : ((h.push o1).push o2).objs.size = n + 2 := by rw [Heap.size_push, s1]
  have s3 : (((h.push o1).push o2).push o3).objs.size = n + 3 := by rw [Heap.size_push, s2]
  have s4 : ((((h.push o1).push o2).push o3).push o4).objs.size = n + 4 := by rw [Heap.size_push, s3]
  refine ⟨by rw [Heap.size_push, s4], ?_, ?_, ?_, ?_, push_new s4 l5, fun c hc => ?_⟩
  · rw [push_old (by rw [s4]; exact Nat.lt_add_of_pos_right (by decide)), push_old (by rw [s3]; exact Nat.lt_add_of_pos_right (by decide)), push_old (by rw [s2]; exact Nat.lt_add_of_pos_right (by decide)), push_old (by rw [s1]; exact Nat.lt_add_of_pos_right (by decide))]
    exact push_new hn l1
  · rw [push_old (by rw [s4]; exact Nat.add_lt_add_left (by decide) _), push_old (by rw [s3]; exact Nat.add_lt_add_left (by decide) _), push_old (by rw [s2]; exact Nat.add_lt_add_left (by decide) _)]
    exact push_new s1 l2
  · rw [push_old (by rw [s4]; exact Nat.add_lt_add_left (by decide) _), push_old (by rw [s3]; exact Nat.add_lt_add_left (by decide) _)]
    exact push_new s2 l3
  · rw [push_old (by rw [s4]; exact Nat.add_lt_add_left (by decide) _)]
    exact push_new s3 l4
  · rw [push_old (by rw [s4]; exact Nat.lt_add_right _ hc), push_old (by rw [s3]; exact Nat.lt_add_right _ hc), push_old (by rw [s2]; exact Nat.lt_add_right _ hc), push_old (by rw [s1]; exact Nat.lt_add_right _ hc), push_old (by rw [hn]; exact hc)]
theorem my_zip_2 {l1 l2 : Addr} {xs ys : Array Value} {Q : Value → Shared → Prop} (hl1 : s.heap.IsList l1 xs) (hl2 : s.heap.IsList l2 ys)
    (h : ∀ h', IsZip h' (s.heap.objs.size + 4) (s.heap.objs.size + 2) (s.heap.objs.size + 3) .none → IsPair h' (s.heap.objs.size + 2) (.ref s.heap.objs.size) (.ref (s.heap.objs.size + 1)) →
      IsPair h' (s.heap.objs.size + 3) .none .none → h'.IsListIter s.heap.objs.size l1 0 → h'.IsListIter (s.heap.objs.size + 1) l2 0 → h'.objs.size = s.heap.objs.size + 5 →
      (∀ c o, s.heap.get? c = some o → h'.get? c = some o) → (∀ c, c < s.heap.objs.size → h'.get? c = s.heap.get? c) → Q (.ref (s.heap.objs.size + 4)) { s with heap := h' }) :
    wpAny (model prog w) A (call (.type "zip") [.ref l1, .ref l2]) Q E s := by
  refine callType_new (Q := Q) F.called_zip (by decide) (F.typeCall_zip_2 _ _) (F.newCall_zip_2 _ _) (fun obj => F.args_object_init_3 obj _ _) F.entry_zip_new (meets_zip_new l1 l2 xs ys) ?_
  obtain ⟨size, i1, i2, ti, to, z, old⟩ := five (h := s.heap) (H := zipH5 s.heap l1 l2) rfl rfl rfl rfl rfl rfl rfl
  have at4 : (zipH4 s.heap l1 l2).objs.size = s.heap.objs.size + 4 := by simp only [zipH4, zipH3, zipH2, zipH1, Heap.size_push]
  simp only [zipH3, zipH2, zipH1, Heap.size_push] at ti z
  refine ⟨hl1, hl2, ?_⟩
  rw [at4]
  exact ⟨⟨_, z, rfl⟩, h _ z ti to ⟨_, i1, rfl, rfl⟩ ⟨_, i2, rfl, rfl⟩ size (fun c o e => (old c (Heap.lt_size e)).trans e) old⟩
theorem ready_zip {elts : List Expr} {k : Nat} {pos : Pos} {l1 l2 : Addr} {xs ys : Array Value} {Q : Value → Shared → Prop} (hh : A.handled = none) (hl1 : s.heap.IsList l1 xs) (hl2 : s.heap.IsList l2 ys)
    (h : ∀ I TI TO i1 i2 St s₂, Ready prog w A (.Tuple elts k pos) (min xs.size ys.size) (fun i v h => ∃ T vals, v = .ref T ∧ h.IsTuple T vals ∧ ∃ x y, xs[i]? = some x ∧ ys[i]? = some y ∧ vals = #[x, y]) s [I, TI, TO, i1, i2, l1, l2] [I, TI, TO, i1, i2] I (.ref I) s₂ St → Q (.ref I) s₂) :
    wpAny (model prog w) A (call (.type "zip") [.ref l1, .ref l2]) (fun v s₁ => wpAny (model prog w) A (pyIter v) Q E s₁) E s := by
  have z1 : l1 < s.heap.objs.size := let ⟨_, ho, _⟩ := hl1; Heap.lt_size ho
  have z2 : l2 < s.heap.objs.size := let ⟨_, ho, _⟩ := hl2; Heap.lt_size ho
  refine my_zip_2 hl1 hl2 fun H a1 a2 a3 a4 a5 size up old => ?_
  have hl1' : H.IsList l1 xs := hl1.at (up _)
  have hl2' : H.IsList l2 ys := hl2.at (up _)
  clear up
  generalize hN : s.heap.objs.size = N at a1 a2 a3 a4 a5 size old z1 z2
  have apart : ZipApart (N + 4) (N + 2) (N + 3) N (N + 1) l1 l2 := by
    constructor <;> (intro q; simp only [Addr] at *; (first | lia | omega))
  have W := WalksT.zip2 (prog := prog) (w := w) hh (N + 4) (N + 2) (N + 3) N (N + 1) l1 l2 apart xs ys
  have mem : ∀ b, b ∈ [N + 4, N + 2, N + 3, N, N + 1] ↔ N ≤ b ∧ b < N + 5 := by
    intro b
    simp only [List.mem_cons, List.not_mem_nil, or_false, Addr] at *
    (first | lia | omega)
  have z3 : ∃ a b, IsPair H (N + 3) a b := ⟨_, _, a3⟩
  have st0 := And.intro a1 (And.intro a2 (And.intro z3 (And.intro a4 (And.intro a5 (And.intro hl1' hl2')))))
  refine W.self 0 _ _ _ st0 (h (N + 4) (N + 2) (N + 3) N (N + 1) _ _ (Ready.ofNew (k := 5) ((It.ofWalksU W.toU ?live).wider (wr' := [N + 4, N + 2, N + 3, N, N + 1]) ?in_ ?wr) st0 hN size old mem ?fp))
  case live =>
    rintro i h ⟨c1, c2, ⟨_, _, c3⟩, ⟨_, c4, _⟩, ⟨_, c5, _⟩, ⟨_, c6, _⟩, ⟨_, c7, _⟩⟩ b hb
    simp only [List.mem_cons, List.not_mem_nil, or_false] at hb
    rcases hb with rfl | rfl | rfl | rfl | rfl | rfl | rfl <;> exact ⟨_, by assumption⟩
  case in_ => exact fun b hb => (mem b).mpr (by simp only [List.mem_cons, List.not_mem_nil, or_false, Addr] at hb ⊢; (first | lia | omega))
  case wr => exact fun b hb => List.mem_append_left [l1, l2] hb
  case fp =>
    intro b hb
    rcases List.mem_append.mp (show b ∈ [N + 4, N + 2, N + 3, N, N + 1] ++ [l1, l2] from hb) with hb | hb
    · exact ((mem b).mp hb).2
    · exact (mem_two hb).elim (fun q => q ▸ Nat.lt_add_right 5 z1) fun q => q ▸ Nat.lt_add_right 5 z2
end
end Mine
end
section
-- M5
open PySem PySem.W PyProof.Rows PySem.Calls PySem.Spec
namespace Mine
section
variable {prog : Program} {w : World} {A : Around} {E E' : Value → Shared → Prop} {s : Shared} {env : Env} {h₀ : Heap} {L c : Addr} {m : Str → Option Value} {news : List (Addr × Obj)} {x : Str} {v : Value} {v₀ : Option Value} {o : Obj} {f : Obj → List (Addr × Obj)}
theorem st_cellE {Q : Unit → Shared → Prop} (F : Fr h₀ L s.heap m) (N : News h₀ L s.heap news) (hc : env.cells.lookup x = some c) (U : UpdF c o news f) (hd : o.data = .cell v₀)
    (h : ∀ h' o', Fr h₀ L h' m → News h₀ L h' (f o') → o'.data = .cell (some v) → Q () { s with heap := h' })
    (hk : env.scope.kind = .function) (hx : env.kindOf x = some .cell) : wpAny (model prog w) A (storeName env x v) Q E s := by
  have ⟨own, rest, split, turned, h1, h2⟩ := U.split
  have ⟨at_, neL, new⟩ := N (c, o) (split ▸ List.mem_append_right own (.head rest))
  subst split
  exact wpAny_storeName_cell hk hx hc ⟨o, at_, hd⟩ fun h' ⟨o', at', hd'⟩ only => h h' o' (F.change only neL new) (turned o' ▸ N.setIn h1 h2 only at') hd'
end
end Mine
end
section
-- P4
open PySem PySem.W PyProof.Rows PySem.Calls PySem.Spec
namespace Mine
noncomputable def row (e : Int) : Str := Txt.join (Str.ofString "") (fmL e 10)
noncomputable def sgL (r : Int) : List Str := (List.range 5).map fun k : Nat => if r / 2 ^ k % 2 = 0 then Str.ofString "-" else Txt.item (Str.ofString "xwrxw") (k : Int)
theorem sgL_get (r : Int) {j : Nat} (hj : j < 5) : (sgL r)[j]? = some (if r / 2 ^ j % 2 = 0 then Str.ofString "-" else Txt.item (Str.ofString "xwrxw") (j : Int)) := by
  unfold sgL; rw [List.getElem?_map, List.getElem?_range hj]; rfl
noncomputable def sgn (r : Int) : Str := Txt.join (Str.ofString "") (sgL r)
theorem sgL_weight {r : Int} (h0 : 0 ≤ r) (h1 : r < 32) : ((sgL r).map (·.length)).sum + (sgL r).length ≤ 1048576 := by
  have key : ∀ n : _root_.Fin 32, ((sgL (n.val : Int)).map (·.length)).sum + (sgL (n.val : Int)).length ≤ 1048576 := by decide +kernel
  obtain ⟨n, rfl⟩ := Int.eq_ofNat_of_zero_le h0
  exact key ⟨n, by (first | lia | omega)⟩
theorem sgn_len {r : Int} (h0 : 0 ≤ r) (h1 : r < 32) : (sgn r).length = 5 := by
  have key : ∀ n : _root_.Fin 32, (sgn (n.val : Int)).length = 5 := by decide +kernel
  obtain ⟨n, rfl⟩ := Int.eq_ofNat_of_zero_le h0
  exact key ⟨n, by (first | lia | omega)⟩
theorem slice_tok (x : Str) (u : Tok) : Txt.sliceBy x none none (-1, u) = Txt.sliceBy x none none (-1, 0) := rfl
/-- a mode k * 4096 + r shows its kind by k alone, and its rights by r alone -/
theorem and_low {k r b : Nat} (hr : r < 4096) (hb : b < 4096) : (k * 4096 + r) &&& b = r &&& b := by
  have h : ((k * 4096 + r) &&& b) % 4096 = ((k * 4096 + r) % 4096) &&& (b % 4096) := Nat.and_mod_two_pow (n := 12)
  rwa [Nat.mod_eq_of_lt (Nat.lt_of_le_of_lt Nat.and_le_right hb), Nat.mod_eq_of_lt hb, show (k * 4096 + r) % 4096 = r by (first | lia | omega)] at h
theorem and_high {k r : Nat} (hk : k < 16) (hr : r < 4096) : (k * 4096 + r) &&& 61440 = k * 4096 := by
  have lo : ((k * 4096 + r) &&& 61440) % 4096 = ((k * 4096 + r) % 4096) &&& 0 := Nat.and_mod_two_pow (n := 12)
  have hi : ((k * 4096 + r) &&& 61440) / 4096 = ((k * 4096 + r) / 4096) &&& 15 := Nat.and_div_two_pow (n := 12)
  have kk : k &&& 15 = k % 16 := Nat.and_two_pow_sub_one_eq_mod k 4
  rw [Nat.and_zero] at lo
  rw [show (k * 4096 + r) / 4096 = k by (first | lia | omega), kk] at hi
  (first | lia | omega)
noncomputable def rest (r : Int) : List Str := (List.range' 1 9).map fun i => pick r i (tabs.getD i [])
noncomputable def kindOf (k : Int) : Str := Txt.item (Str.ofString "?pc?d?b?-?l?s???") k
theorem find_eq {α : Type} {f g : α → Bool} : ∀ {l : List α}, (∀ x ∈ l, f x = g x) → l.find? f = l.find? g
  | [], _ => rfl
  | a :: l, h => by rw [List.find?_cons, List.find?_cons, h a (.head _), find_eq fun x hx => h x (.tail _ hx)]
theorem rest_low {k r : Nat} (hr : r < 4096) : rest ((k : Int) * 4096 + r) = rest r := by
  have small : ∀ j : _root_.Fin 9, ∀ e ∈ tabs.getD (j.val + 1) [], 0 ≤ e.1 ∧ e.1 < 4096 := by decide
  refine List.map_congr_left fun i hi => ?_
  obtain ⟨i0, i1⟩ := List.mem_range'_1.mp hi
  obtain ⟨j, rfl⟩ : ∃ j, i = j + 1 := ⟨i - 1, by (first | lia | omega)⟩
  unfold pick
  rw [find_eq fun e he => ?_]
  obtain ⟨b0, b1⟩ := small ⟨j, by (first | lia | omega)⟩ e he
  unfold hit
  rw [if_neg (Nat.succ_ne_zero j), if_neg (Nat.succ_ne_zero j), bitAnd_pp (by (first | lia | omega)) b0, bitAnd_pp (Int.natCast_nonneg r) b0, show ((k : Int) * 4096 + r).toNat = k * 4096 + r by (first | lia | omega), Int.toNat_natCast, and_low hr (by (first | lia | omega))]
theorem head_is {k r : Nat} (hk : k < 16) (hr : r < 4096) : pick ((k : Int) * 4096 + r) 0 (tabs.getD 0 []) = kindOf k := by
  have key : ∀ k : _root_.Fin 16, (match (tabs.getD 0 []).find? (fun e => decide (((k.val * 4096 : Nat) : Int) = e.1)) with | some e => e.2 | none => Str.ofString "?") = kindOf k.val := by decide +kernel
  rw [← key ⟨k, hk⟩]
  unfold pick
  rw [find_eq fun e _ => ?_]
  · rfl
  · unfold hit
    rw [if_pos rfl, bitAnd_pp (by (first | lia | omega)) (by decide), show ((k : Int) * 4096 + r).toNat = k * 4096 + r by (first | lia | omega), show (61440 : Int).toNat = 61440 from rfl, and_high hk hr]
theorem row_cut {k r : Nat} (hk : k < 16) (hr : r < 4096) : row ((k : Int) * 4096 + r) = kindOf k ++ Txt.join (Str.ofString "") (rest r) := by
  show Builtin.Str.glued (Str.ofString "") (pick ((k : Int) * 4096 + r) 0 (tabs.getD 0 []) :: rest ((k : Int) * 4096 + r)) = kindOf k ++ Builtin.Str.glued (Str.ofString "") (rest r)
  rw [head_is hk hr, rest_low hr, StrLaws.glued_eq_join, StrLaws.glued_eq_join]
  exact join_nil_cons _ _
theorem row_is {k r : Int} (k0 : 0 ≤ k) (k1 : k < 16) (r0 : 1 ≤ r) (r1 : r < 32) (u : Tok) : Txt.item (Str.ofString "?pc?d?b?-?l?s???") k ++ Str.ofString "----" ++ Txt.sliceBy (sgn r) none none (-1, u) = row (k * 4096 + r) := by
  have key : ∀ r : _root_.Fin 32, r.val = 0 ∨ Txt.join (Str.ofString "") (rest (r.val : Int)) = Str.ofString "----" ++ Txt.sliceBy (sgn (r.val : Int)) none none (-1, 0) := by decide +kernel
  obtain ⟨n, rfl⟩ := Int.eq_ofNat_of_zero_le k0
  obtain ⟨r, rfl⟩ := Int.eq_ofNat_of_zero_le (show 0 ≤ r by (first | lia | omega))
  have h := (key ⟨r, by (first | lia | omega)⟩).resolve_left (show r ≠ 0 by (first | lia | omega))
  rw [row_cut (by (first | lia | omega)) (by (first | lia | omega)), slice_tok, Str.append_assoc]
  exact congrArg (kindOf n ++ ·) h.symm
theorem row_ok {k r : Int} (k0 : 0 ≤ k) (k1 : k < 16) (r0 : 0 ≤ r) (r1 : r < 32) : PyData.strOk (row (k * 4096 + r)) = true := by
  have kinds : ∀ k : _root_.Fin 16, PyData.strOk (kindOf (k.val : Int)) = true := by decide +kernel
  have rights : ∀ r : _root_.Fin 32, PyData.strOk (Txt.join (Str.ofString "") (rest (r.val : Int))) = true := by decide +kernel
  obtain ⟨n, rfl⟩ := Int.eq_ofNat_of_zero_le k0
  obtain ⟨r, rfl⟩ := Int.eq_ofNat_of_zero_le r0
  have a := kinds ⟨n, by (first | lia | omega)⟩
  have b := rights ⟨r, by (first | lia | omega)⟩
  rw [row_cut (by (first | lia | omega)) (by (first | lia | omega))]
  unfold PyData.strOk at a b ⊢
  rw [Str.cps_append, Array.all_append, a, b, Bool.and_self]
end Mine
end
section
-- P5
open PySem PySem.W PyProof.Rows PySem.Calls PySem.Spec
namespace Mine
theorem pf_zero {c : Nat} (h : c < 32) (e : (pf (c : Nat) == Str.ofString "0x0") = true) : popN c = 0 := by
  have key : ∀ c : _root_.Fin 32, (pf (c.val : Nat) == Str.ofString "0x0") = true → popN c.val = 0 := by decide +kernel
  exact key ⟨c, h⟩ e
theorem pf_split {c : Nat} (h : c < 32) (e : (pf (c : Nat) == Str.ofString "0x0") = false) : (Txt.split (pf (c : Nat)) (Str.ofString ", ")).length = popN c := by
  have key : ∀ c : _root_.Fin 32, (pf (c.val : Nat) == Str.ofString "0x0") = false → (Txt.split (pf (c.val : Nat)) (Str.ofString ", ")).length = popN c.val := by decide +kernel
  exact key ⟨c, h⟩ e
theorem pf_len {c : Nat} (h : c < 32) : (pf (c : Nat)).length ≤ 64 := by
  have key : ∀ c : _root_.Fin 32, (pf (c.val : Nat)).length ≤ 64 := by decide +kernel
  exact key ⟨c, h⟩
end Mine
end
section
-- P6
open PySem PySem.W PyProof.Rows PySem.Calls PySem.Spec
namespace Mine
theorem inner_is {r : Int} {Y : Nat} (r0 : 0 ≤ r) (r1 : r < 32) (hY : Y < 32) : (((List.range 5).filter fun k : Nat => (Txt.item (sgn r) (k : Int) != Str.ofString "-") && decide ((Y : Int) / 2 ^ k % 2 = 0)).isEmpty) = sub r.toNat Y := by
  have key : ∀ r Y : _root_.Fin 32, (((List.range 5).filter fun k : Nat => (Txt.item (sgn (r.val : Int)) (k : Int) != Str.ofString "-") && decide ((Y.val : Int) / 2 ^ k % 2 = 0)).isEmpty) = sub r.val Y.val := by decide +kernel
  obtain ⟨r, rfl⟩ := Int.eq_ofNat_of_zero_le r0
  exact key ⟨r, by (first | lia | omega)⟩ ⟨Y, hY⟩
/-- a sign is a dash just where the right's bit is not set -/
theorem dash_is {r : Int} {k : Nat} (r0 : 0 ≤ r) (r1 : r < 32) (hk : k < 5) : (Txt.item (sgn r) (k : Int) == Str.ofString "-") = !(r.toNat.testBit k) := by
  have key : ∀ r : _root_.Fin 32, ∀ k : _root_.Fin 5, (Txt.item (sgn (r.val : Int)) (k.val : Int) == Str.ofString "-") = !(r.val.testBit k.val) := by decide +kernel
  obtain ⟨r, rfl⟩ := Int.eq_ofNat_of_zero_le r0
  exact key ⟨r, by (first | lia | omega)⟩ ⟨k, hk⟩
noncomputable def wordsOf (c : Nat) : Str := Txt.join (Str.ofString ", ") (((List.range 5).filter fun k => c.testBit k).map rname)
theorem words_is {c : Nat} (h : c < 32) : (if (wordsOf c).length = 0 then Str.ofString "0x0" else wordsOf c) = pf (c : Nat) := by
  have key : ∀ c : _root_.Fin 32, (if (wordsOf c.val).length = 0 then Str.ofString "0x0" else wordsOf c.val) = pf (c.val : Nat) := by decide +kernel
  exact key ⟨c, h⟩
theorem names_weight : ∀ c : _root_.Fin 32, (((((List.range 5).filter fun k => c.val.testBit k).map rname).map (·.length)).sum + (((List.range 5).filter fun k => c.val.testBit k).map rname).length) ≤ 1048576 := by decide +kernel
end Mine
end
section
-- M6
open PySem PySem.W PyProof.Rows PySem.Calls PySem.Spec
namespace Mine
theorem strs_carried : ∀ {vs : List Value} {ss : List Str}, StrsAre vs ss → CarriedAll vs (ss.map PyData.str)
  | _, _, .nil => .nil
  | _, _, .cons _ t r => .cons (.str _ t) (strs_carried r)
theorem strs_lay : ∀ ss : List Str, (∀ x ∈ ss, PyData.strOk x = true) → PyData.canLayAll0 (ss.map PyData.str) = true
  | [], _ => rfl
  | a :: r, h => by
    have h1 := h a (.head _)
    have h2 := strs_lay r fun x hx => h x (.tail _ hx)
    simp [PyData.canLayAll0, PyData.canLay0, h1, h2]
theorem strs_depth : ∀ ss : List Str, PyData.depthAll (ss.map PyData.str) = 0
  | [] => rfl
  | _ :: r => by simp [PyData.depthAll, PyData.depth, strs_depth r]
theorem strs_shaped (ss : List Str) (h : ∀ x ∈ ss, PyData.strOk x = true) : SeqAt.shaped (.list (ss.map PyData.str)) = true := by
  simp [SeqAt.shaped, PyData.canLay0, PyData.depth, strs_lay ss h, strs_depth]
theorem strs_eqv : ∀ ss : List Str, PyData.eqvAll (ss.map PyData.str) (ss.map PyData.str) = true
  | [] => rfl
  | _ :: r => by simp [PyData.eqvAll, PyData.eqv, strs_eqv r]
noncomputable def pairD (R : List Nat) (Y : Nat) : PyData := .tuple [.int (Y : Int), .str (pf (Zc R Y : Nat))]
theorem pf_ok {c : Nat} (h : c < 32) : PyData.strOk (pf (c : Nat)) = true := by
  have key : ∀ c : _root_.Fin 32, PyData.strOk (pf (c.val : Nat)) = true := by decide +kernel
  exact key ⟨c, h⟩
theorem pairs_lay (R : List Nat) : ∀ ss : List Nat, PyData.canLayAll0 (ss.map (pairD R)) = true
  | [] => rfl
  | a :: r => by simp [PyData.canLayAll0, pairD, PyData.canLay0, pairs_lay R r, pf_ok (Zc_lt R a)]
theorem pairs_depth (R : List Nat) : ∀ ss : List Nat, PyData.depthAll (ss.map (pairD R)) ≤ 1
  | [] => Nat.zero_le _
  | _ :: r => by
    have := pairs_depth R r
    simp [PyData.depthAll, pairD, PyData.depth]; (first | lia | omega)
theorem pairs_shaped (R : List Nat) (ss : List Nat) : SeqAt.shaped (.list (ss.map (pairD R))) = true := by
  have := pairs_depth R ss
  simp [SeqAt.shaped, PyData.canLay0, PyData.depth, pairs_lay]
  (first | lia | omega)
theorem pairs_eqv (R : List Nat) : ∀ ss : List Nat, PyData.eqvAll (ss.map (pairD R)) (ss.map (pairD R)) = true
  | [] => rfl
  | _ :: r => by simp [PyData.eqvAll, pairD, PyData.eqv, pairs_eqv R r]
theorem pairs_read {R : List Nat} {h : Heap} : ∀ {vs : List Value} {l : List Nat}, All2 (TP (SL R) h) vs l → ∃ as, ReadsAll h vs (l.map (pairD R)) as
  | _, _, .nil => ⟨_, .nil⟩
  | _, _, .cons ⟨a, arr, n, e, ha, t1, t2, e2⟩ r => by
    subst e e2
    obtain ⟨as, hr⟩ := pairs_read r
    exact ⟨_, .cons (.tuple ha rfl rfl (.cons (.int _ _) (.cons (.str _ _) .nil))) hr⟩
section
variable {prog : Program} {w : World} {A : Around} {E : Value → Shared → Prop} {s : Shared} {a b : Addr} {xs ys : List Value} {Q : Value → Shared → Prop}
theorem ne_strs_self {ss : List Str} (ha : s.heap.IsList a xs.toArray) (hb : s.heap.IsList b ys.toArray) (hi : StrsAre xs ss) (hj : StrsAre ys ss) (hk : ∀ x ∈ ss, PyData.strOk x = true) (hu : A.units + 64 < cLine) (h : Q (.bool false) s) :
    wpAny (model prog w) A (compareOp .NotEq (.ref a) (.ref b)) Q E s :=
  ne_dataH (reads_newData ha (strs_carried hi)) (reads_newData hb (strs_carried hj)) (strs_shaped _ hk) (strs_shaped _ hk) hu (by
    have e : PyData.eqv (.list (ss.map PyData.str)) (.list (ss.map PyData.str)) = true := by simp only [PyData.eqv]; exact strs_eqv ss
    rw [e]; exact h)
theorem eq_pairs_self {R l : List Nat} (ha : s.heap.IsList a xs.toArray) (hb : s.heap.IsList b ys.toArray) (hi : All2 (TP (SL R) s.heap) xs l) (hj : All2 (TP (SL R) s.heap) ys l) (hu : A.units + 64 < cLine) (h : Q (.bool true) s) :
    wpAny (model prog w) A (compareOp .Eq (.ref a) (.ref b)) Q E s := by
  obtain ⟨as, ra⟩ := pairs_read hi
  obtain ⟨bs, rb⟩ := pairs_read hj
  obtain ⟨oa, ea, ca, na, da⟩ := ha
  obtain ⟨ob, eb, cb, nb, db⟩ := hb
  refine eq_dataH (.list ea ca da (by simpa using ra)) (.list eb cb db (by simpa using rb)) (pairs_shaped R l) (pairs_shaped R l) hu ?_
  have e : PyData.eqv (.list (l.map (pairD R))) (.list (l.map (pairD R))) = true := by simp only [PyData.eqv]; exact pairs_eqv R l
  rw [e]; exact h
end
end Mine
end
section
-- M7
open PySem PySem.W PyProof.Rows PySem.Calls PySem.Spec
namespace Mine
noncomputable def pureAsk {α : Type} (lt : Nat → Nat → Bool) : KasT α → α
  | .ret a => a
  | .ask i j k => pureAsk lt (k (lt i j))
noncomputable def okAsk {α : Type} (n : Nat) (lt : Nat → Nat → Bool) : KasT α → Bool
  | .ret _ => true
  | .ask i j k => decide (i < n) && decide (j < n) && okAsk n lt (k (lt i j))
theorem kas_pure {α : Type} {n : Nat} {lt : Nat → Nat → Bool} {cmp : Nat → Nat → (Bool → Shared → Prop) → Shared → Prop} {Q : α → Shared → Prop} {s : Shared} (hc : ∀ i j C, i < n → j < n → C (lt i j) s → cmp i j C s) :
    ∀ t : KasT α, okAsk n lt t = true → Q (pureAsk lt t) s → t.kasWp cmp Q s
  | .ret _, _, h => h
  | .ask i j k, ho, h => by
    simp only [okAsk, Bool.and_eq_true, decide_eq_true_eq] at ho
    exact hc i j _ ho.1.1 ho.1.2 (kas_pure hc (k (lt i j)) ho.2 h)
/-- the pairs that are sorted -/
noncomputable def l31 : List (Int × Int) := (List.range 31).map fun i => ((popN (i + 1) : Int), ((i + 1 : Nat) : Int))
noncomputable def s31 : List (Int × Int) := sorted31.map fun Y => ((popN Y : Int), (Y : Int))
noncomputable def ltP (a b : Int × Int) : Bool := if a.1 = b.1 then decide (a.2 < b.2) else decide (a.1 < b.1)
noncomputable def lt31 (i j : Nat) : Bool := ltP (l31.getD i (0, 0)) (l31.getD j (0, 0))
theorem sort_ok : okAsk 31 lt31 (kas_sort 31) = true := by decide +kernel
theorem sort_is : (pureAsk lt31 (kas_sort 31)).toList.map (fun i => l31.getD i (0, 0)) = s31 := by decide +kernel
theorem sort_lt : ∀ i ∈ (pureAsk lt31 (kas_sort 31)).toList, i < 31 := by decide +kernel
section
variable {prog : Program} {w : World} {A : Around} {E : Value → Shared → Prop} {s : Shared} {g : Heap} {L l : Addr} {m : Str → Option Value} {news tups : List (Addr × Obj)} {vs : List Value}
theorem ask31 {b : Bool} (hv : All2 (TP S2 s.heap) vs l31) (hb : b = true) : ∀ i j C, i < 31 → j < 31 → C (lt31 i j) s → kas_ask prog w A (tuples' b) vs i j C s := by
  intro i j C hi hj hC
  subst hb
  have hl : l31.length = 31 := by decide
  obtain ⟨ei, hei⟩ : ∃ e, l31[i]? = some e := ⟨_, List.getElem?_eq_getElem (by rw [hl]; exact hi)⟩
  obtain ⟨ej, hej⟩ : ∃ e, l31[j]? = some e := ⟨_, List.getElem?_eq_getElem (by rw [hl]; exact hj)⟩
  obtain ⟨vi, hvi, ai, arri, ni, rfl, hai, t1, t2, rfl⟩ := hv.get hei
  obtain ⟨vj, hvj, aj, arrj, nj, rfl, haj, u1, u2, rfl⟩ := hv.get hej
  have e3 : lt31 i j = ltP ei ej := by unfold lt31; rw [List.getD_eq_getElem?_getD, List.getD_eq_getElem?_getD, hei, hej]; rfl
  rw [e3] at hC
  unfold kas_ask
  rw [List.getD_eq_getElem?_getD, List.getD_eq_getElem?_getD, hvi, hvj]
  refine kat_lt hai rfl haj rfl ?_
  refine kat_cons (wpAny_eqBool_int ?_)
  unfold ltP at hC
  by_cases h : ei.1 = ej.1
  · rw [if_pos h] at hC
    rw [show (ei.1 == ej.1) = true from by simp [h]]
    refine kat_yes (kat_cons (wpAny_eqBool_int ?_))
    by_cases h2 : ei.2 = ej.2
    · rw [show (ei.2 == ej.2) = true from by simp [h2]]
      refine kat_yes (kat_nil ?_)
      rw [h2] at hC
      simpa using hC
    · rw [show (ei.2 == ej.2) = false from by simp [h2]]
      refine kat_no (kat_one _ _ (PyProof.Rows.lt_int ?_))
      exact hC
  · rw [if_neg h] at hC
    rw [show (ei.1 == ej.1) = false from by simp [h]]
    exact kat_no (oneLt_int hC)
theorem firsts31 {h : Heap} : ∀ {vs : List Value} {l : List (Int × Int)}, All2 (TP S2 h) vs l → ∃ fs, KatTups h vs fs ∧ fs.length = l.length ∧ ∀ v ∈ fs, ∃ n t, v = .int n t
  | _, _, .nil => ⟨[], KatTups.nil, rfl, fun _ h => nomatch h⟩
  | _, _, .cons ⟨a, arr, n, e, ha, t1, t2, e2⟩ r => by
    subst e e2
    obtain ⟨fs, h1, h2, h3⟩ := firsts31 r
    refine ⟨_ :: fs, KatTups.cons ha rfl rfl rfl h1, by simp [h2], fun v hv => ?_⟩
    rcases List.mem_cons.mp hv with rfl | hv
    · exact ⟨_, _, rfl⟩
    · exact h3 v hv
theorem my_sorted {Q : Value → Shared → Prop} (F : Fr g L s.heap m) (N : News g L s.heap news) (hl : s.heap.IsList l vs.toArray) (hv : All2 (TN S2 g tups) vs l31) (hsub : ∀ p ∈ tups, p ∈ news)
    (h : ∀ D h' cnt out, Fr g L h' m → News g L h' ((D, W.listOf out.toArray cnt) :: news) → (∀ q ∈ news, q.1 < D) → All2 (TN S2 g tups) out s31 → Q (.ref D) { s with heap := h' }) :
    wpAny (model prog w) A (call (.builtin "sorted") [.ref l]) Q E s := by
  have hlen : vs.length = 31 := by rw [hv.length]; decide
  refine kat_sorted F N hl (by rw [hlen]; decide) (by rw [hlen]; decide) fun D e1 h' F' N' hlt => ?_
  have hT : All2 (TP S2 h') vs l31 := hv.mono fun _ _ x => x.tp (fun p hp => N' p (.tail _ (hsub p hp))) F'
  obtain ⟨fs, k1, k2, k3⟩ := firsts31 hT
  have hl31 : l31.length = 31 := by decide
  refine kat_kind (T := .type "int") (s := { s with heap := h' }) k1 (by rw [k2, hl31]; decide) (fun v hv' => ?_) (by decide) ?_
  · obtain ⟨n, t, rfl⟩ := k3 v hv'
    exact Looks.of_pure rfl
  · rw [hlen]
    refine kas_pure (n := 31) (lt := lt31) (ask31 hT (by decide)) (kas_sort 31) sort_ok ?_
    have hne : ∀ p ∈ news, p.1 ≠ D := fun p hp => Nat.ne_of_lt (hlt p hp)
    refine KasFin.intro F' N' (UpdF.head hne) fun h'' c F'' N'' => h D h'' c _ F'' N'' hlt ?_
    · rw [← sort_is]
      have key : ∀ is : List Nat, (∀ i ∈ is, i < 31) → All2 (TN S2 g tups) (is.map fun i => vs.getD i Value.none) (is.map fun i => l31.getD i (0, 0)) := by
        intro is
        induction is with
        | nil => exact fun _ => .nil
        | cons i r ih =>
          intro hi
          refine .cons ?_ (ih fun j hj => hi j (.tail _ hj))
          obtain ⟨e, he⟩ : ∃ e, l31[i]? = some e := ⟨_, List.getElem?_eq_getElem (by rw [hl31]; exact hi i (.head _))⟩
          obtain ⟨v, hv', hr⟩ := hv.get he
          dsimp only
          rw [List.getD_eq_getElem?_getD, List.getD_eq_getElem?_getD, he, hv']
          exact hr
      exact key _ sort_lt
/-- range(a, b) -/
theorem ready_range31 {target : Expr} {r : Addr} {t u v : Tok} {Q : Value → Shared → Prop} (ht : plainTarget target = true) (hh : A.handled = none) (hr : IsRange s.heap r 1 32 1 t u v)
    (h : ∀ I St s₂, Ready prog w A target 31 (fun i v _ => ∃ t, v = .int (1 + (i : Int)) t) s [I] [I] I (.ref I) s₂ St → Q (.ref I) s₂) : wpAny (model prog w) A (pyIter (.ref r)) Q E s := by
  have e1 : Builtin.Range.rangeSize 1 32 1 = 31 := by decide
  refine wpAny_pyIter_range hr ?_ (h _ _ _ (ready_push (It.rangeA ht hh s.heap.objs.size 1 31) ?_ fun b hb => .inl (List.mem_singleton.mp hb)))
  · exact small_one (by (first | lia | omega)) (by (first | lia | omega)) (by (first | lia | omega)) (by (first | lia | omega))
  · rw [e1]
    have := Heap.get?_push_size s.heap (o := { cls := .type "range_iterator", data := .fields #[rawInt 1, rawInt 31, rawInt 1] }) rfl
    simpa using this
end
end Mine
end
section
-- G1
open PySem PySem.W PyProof.Rows PySem.Calls PySem.Spec
namespace Mine
-- lines of the walk
theorem lines_G1_1 : True := by
  k_with_none
  k_with "execs nil" => (k_here; first | k_gentoks | (refine SeqQ.next ?_; k_gentoks) | refine wpAny_execs_nil ?_)
  k_with "execs cons" => (k_here; first | k_gentoks | (refine SeqQ.next ?_; k_gentoks) | refine execs_consS ?_)
  k_with "eval ListComp" => refine Stopped.intro ?_
  k_with "exec Assign cons ListComp" => refine Stopped.intro ?_
  k_with "exec While Compare cons nil" => refine Stopped.intro ?_
  k_with "exec While Name cons nil" => refine Stopped.intro ?_
  k_with "exec For" => refine Stopped.intro ?_
  k_with "exec For Name Name cons nil" => refine Stopped.intro ?_
  k_with "exec For Name Call cons nil" => refine Stopped.intro ?_
  k_with "exec For Name Call cons cons" => refine Stopped.intro ?_
  k_with "exec For Tuple Name cons nil" => refine Stopped.intro ?_
  k_with "exec For Tuple Call cons nil" => refine Stopped.intro ?_
  k_with "exec For Tuple Name cons cons" => refine Stopped.intro ?_
  k_with "pyIter ref" => refine Stopped.intro ?_
  k_with "call ref" => refine Stopped.intro ?_
  k_with "WhileStep2" => refine Stopped.intro ?_
  k_with "ForPost" => refine Stopped.intro ?_
  k_with "CEnd" => refine Stopped.intro ?_
  k_with "call type:range" => (k_here; (with_unfolding_all refine' range1 ?zqk1 ?zqk2 ?_; (case zqk1 => k_asm); (case zqk2 => k_asm); k_whole); intro _ _ _ _ _ _ _ _ _; (try k_sweep); (try dsimp only))
  k_with "storeName" => (k_here; (with_reducible show wpAny _ _ (storeName (compEnvC _ _ _ _) _ _) _ _ _); (with_unfolding_all refine' stE ?zqF ?zqN ?_ ?zqa ?zqb; (case zqF => k_asm); (case zqN => k_asm); (case zqa => rfl); (case zqb => rfl); k_whole); intro _ _ _ _; (try k_sweep); (try dsimp only))
  k_with "storeName" => (k_here; (first
    | (with_unfolding_all refine' st_int ?zqF ?zqN ?_ ?zqa ?zqb; (case zqF => k_asm); (case zqN => k_asm); (case zqa => rfl); (case zqb => rfl); k_whole; intro _ _ _ _ _)
    | (with_unfolding_all refine' st_str ?zqF ?zqN ?_ ?zqa ?zqb; (case zqF => k_asm); (case zqN => k_asm); (case zqa => rfl); (case zqb => rfl); k_whole; intro _ _ _ _ _)
    | (with_unfolding_all refine' st_any ?zqF ?zqN ?_ ?zqa ?zqb; (case zqF => k_asm); (case zqN => k_asm); (case zqa => rfl); (case zqb => rfl); k_whole; intro _ _ _ _)); (try k_sweep); (try dsimp only))
  k_with "eval Name" => (k_here; (with_reducible show wpAny _ _ (eval (Expr.Name _ _) (compEnvC _ _ _ _)) _ _ _); k_dflt (first
    | (refine' nE_L ?zqF ?zqv ?_ ?zqa ?zqb ?zqc; (case zqb => rfl); (case zqa => rfl); (case zqc => decide); (case zqF => k_asm); (case zqv => first | rfl | assumption); k_whole)
    | (refine' nE_CN ?zqN ?zqc ?zqm ?zqd ?_ ?zqa ?zqb ?zqe; (case zqb => rfl); (case zqa => rfl); (case zqe => decide); (case zqN => k_asm); (case zqc => rfl); (case zqm => k_mem); (case zqd => k_asm); k_whole)
    | (refine' nE_C ?zqF ?zqc ?zqm ?_ ?zqa ?zqb ?zqd; (case zqb => rfl); (case zqa => rfl); (case zqd => decide); (case zqF => k_asm); (case zqc => rfl); (case zqm => k_asm); k_whole)
    | (refine' nE_F ?zqF ?zqc ?zqm ?_ ?zqa ?zqb ?zqd ?zqe; (case zqb => rfl); (case zqa => rfl); (case zqd => decide); (case zqe => decide); (case zqF => k_asm); (case zqc => rfl); (case zqm => k_asm); k_whole)
    | (refine' nE_K ?zqF ?zqX ?zqT ?zqe ?_ ?zqa ?zqg ?zqb ?zqd; (case zqb => rfl); (case zqa => rfl); (case zqg => rfl); (case zqd => decide); (case zqF => k_asm); (case zqX => k_asm); (case zqT => k_asm); (case zqe => k_is); k_whole)
    | (refine' nE_B ?zqF ?zqX ?zqT ?zqe ?zqv ?zqn ?_ ?zqa ?zqg ?zqi ?zqb ?zqd; (case zqb => rfl); (case zqa => rfl); (case zqg => rfl); (case zqi => rfl); (case zqd => decide); (case zqF => k_asm); (case zqX => k_asm); (case zqT => k_asm); (case zqe => k_is); (case zqv => boot_fast); (case zqn => decide); k_whole)))
  k_with "binaryOp RShift int int" => (k_here; (with_reducible refine' shrN ?zqa ?_; (case zqa => (first | lia | omega)); k_whole); intro _ _; (try dsimp only))
  k_with "binaryOp RShift int int" => (k_here; (with_reducible refine shr1 ?_); intro _ _; (try dsimp only))
  k_with "binaryOp BitAnd int int" => (k_here; (with_reducible refine and1 ?_); intro _ _; (try dsimp only))
  k_with "call builtin:sum" => refine Stopped.intro ?_
  trivial
noncomputable def LawEnd (s₁ : Shared) (fl : Flow) (s' : Shared) : Prop := fl = .ret (.bool true) ∧ ∃ h' tk, s' = { s₁ with heap := h', toks := tk } ∧ s₁.heap.StaysIn h'
set_option maxHeartbeats 8000000 in
noncomputable def lawIn : { P : World → Shared → Addr → Addr → Addr → Value → Value → Heap → Nat → Prop // (∀ w s₁ fa a1 a2 pm doc h₁ tk₁ ax its ns o1 o2 o3 o4 m, Ctx w s₁.heap s₁.heap → s₁.heap.IsList ax (List.toArray its) → IntsAre its ns → ns.length ≤ 63 →
    Fr s₁.heap s₁.heap.objs.size h₁ m → m "script" = some (.ref ax) →
    News s₁.heap s₁.heap.objs.size h₁ [(s₁.heap.objs.size + 1 + 1 + 1 + 1, o4), (s₁.heap.objs.size + 1 + 1 + 1, o3), (s₁.heap.objs.size + 1 + 1, o2), (s₁.heap.objs.size + 1, o1)] →
    o1.data = .cell none → o2.data = .cell none → o3.data = .cell none → o4.data = .cell none → P w s₁ fa a1 a2 pm doc h₁ tk₁) → PySem.Challenge.rw_un0012_01.Holds } := by
  refine' ⟨_, fun H => hd ?_⟩
  rotate_left
  · k_go0
    rename_i w s₀ s₁ mg mb G Y fa ofa pm doc ho hg KX X V GL T B TE TW w13 w12 M a1 a2 hcd ns hs hlay0 hLy hr1 hl2 w8 w7 ax its w4 hL ra w1 r0 hI hr hcond1 hcond K0 hD h₁ tk₁ F o4 o3 o2 o1 l4 l3 l2 l1 N X0
    refine wpAny_mono (E := fun _ _ => False) (Q := LawEnd s₁) ?h1 ?h2 (fun _ _ e => e.elim)
    case h2 =>
      clear hD F l1 l2 l3 l4 N X0 hcd M
      rintro _ s' ⟨rfl, h', tk, rfl, hst⟩
      refine ⟨.inl ⟨_, .bool true, [], rfl, fun _ => rfl, ?_, ?_, fun _ => ⟨List.nodup_nil, fun _ h => nomatch h⟩⟩, hst, rfl, hg⟩
      · show ReadsW _ _ _ (Value.bool true) _ _
        first | exact ⟨rfl, rfl⟩ | exact rfl | exact ReadsW.bool _ | exact .bool _ | (unfold ReadsW; trace_state; simp)
      · with_unfolding_all rfl
    case h1 =>
      try dsimp only
      exact H w s₁ fa a1 a2 pm doc h₁ tk₁ ax its ns o1 o2 o3 o4 _ ⟨KX, ⟨_, _, _, _, _, T⟩, fun _ _ e => e⟩ hL hI (by (first | lia | omega)) F rfl N l1 l2 l3 l4
theorem off_G1 : True := by
  w_top off
  trivial
end Mine
end
section
-- G2
open PySem PySem.W PyProof.Rows PySem.Calls PySem.Spec
namespace Mine
-- lines of the walk
theorem lines_G2_1 : True := by
  k_with_none
  k_with "execs nil" => (k_here; first | k_gentoks | (refine SeqQ.next ?_; k_gentoks) | refine wpAny_execs_nil ?_)
  k_with "execs cons" => (k_here; first | k_gentoks | (refine SeqQ.next ?_; k_gentoks) | refine execs_consS ?_)
  k_with "eval ListComp" => refine Stopped.intro ?_
  k_with "exec Assign cons ListComp" => refine Stopped.intro ?_
  k_with "exec While Compare cons nil" => refine Stopped.intro ?_
  k_with "exec While Name cons nil" => refine Stopped.intro ?_
  k_with "exec For" => refine Stopped.intro ?_
  k_with "exec For Name Name cons nil" => refine Stopped.intro ?_
  k_with "exec For Name Call cons nil" => refine Stopped.intro ?_
  k_with "exec For Name Call cons cons" => refine Stopped.intro ?_
  k_with "exec For Tuple Name cons nil" => refine Stopped.intro ?_
  k_with "exec For Tuple Call cons nil" => refine Stopped.intro ?_
  k_with "exec For Tuple Name cons cons" => refine Stopped.intro ?_
  k_with "pyIter ref" => refine Stopped.intro ?_
  k_with "call ref" => refine Stopped.intro ?_
  k_with "WhileStep2" => refine Stopped.intro ?_
  k_with "ForPost" => refine Stopped.intro ?_
  k_with "CEnd" => refine Stopped.intro ?_
  k_with "call type:range" => (k_here; (with_unfolding_all refine' range1 ?zqk1 ?zqk2 ?_; (case zqk1 => k_asm); (case zqk2 => k_asm); k_whole); intro _ _ _ _ _ _ _ _ _; (try k_sweep); (try dsimp only))
  k_with "storeName" => (k_here; (with_reducible show wpAny _ _ (storeName (compEnvC _ _ _ _) _ _) _ _ _); (with_unfolding_all refine' stE ?zqF ?zqN ?_ ?zqa ?zqb; (case zqF => k_asm); (case zqN => k_asm); (case zqa => rfl); (case zqb => rfl); k_whole); intro _ _ _ _; (try k_sweep); (try dsimp only))
  k_with "storeName" => (k_here; (first
    | (with_unfolding_all refine' st_int ?zqF ?zqN ?_ ?zqa ?zqb; (case zqF => k_asm); (case zqN => k_asm); (case zqa => rfl); (case zqb => rfl); k_whole; intro _ _ _ _ _)
    | (with_unfolding_all refine' st_str ?zqF ?zqN ?_ ?zqa ?zqb; (case zqF => k_asm); (case zqN => k_asm); (case zqa => rfl); (case zqb => rfl); k_whole; intro _ _ _ _ _)
    | (with_unfolding_all refine' st_any ?zqF ?zqN ?_ ?zqa ?zqb; (case zqF => k_asm); (case zqN => k_asm); (case zqa => rfl); (case zqb => rfl); k_whole; intro _ _ _ _)); (try k_sweep); (try dsimp only))
  k_with "eval Name" => (k_here; (with_reducible show wpAny _ _ (eval (Expr.Name _ _) (compEnvC _ _ _ _)) _ _ _); k_dflt (first
    | (refine' nE_L ?zqF ?zqv ?_ ?zqa ?zqb ?zqc; (case zqb => rfl); (case zqa => rfl); (case zqc => decide); (case zqF => k_asm); (case zqv => first | rfl | assumption); k_whole)
    | (refine' nE_CN ?zqN ?zqc ?zqm ?zqd ?_ ?zqa ?zqb ?zqe; (case zqb => rfl); (case zqa => rfl); (case zqe => decide); (case zqN => k_asm); (case zqc => rfl); (case zqm => k_mem); (case zqd => k_asm); k_whole)
    | (refine' nE_C ?zqF ?zqc ?zqm ?_ ?zqa ?zqb ?zqd; (case zqb => rfl); (case zqa => rfl); (case zqd => decide); (case zqF => k_asm); (case zqc => rfl); (case zqm => k_asm); k_whole)
    | (refine' nE_F ?zqF ?zqc ?zqm ?_ ?zqa ?zqb ?zqd ?zqe; (case zqb => rfl); (case zqa => rfl); (case zqd => decide); (case zqe => decide); (case zqF => k_asm); (case zqc => rfl); (case zqm => k_asm); k_whole)
    | (refine' nE_K ?zqF ?zqX ?zqT ?zqe ?_ ?zqa ?zqg ?zqb ?zqd; (case zqb => rfl); (case zqa => rfl); (case zqg => rfl); (case zqd => decide); (case zqF => k_asm); (case zqX => k_asm); (case zqT => k_asm); (case zqe => k_is); k_whole)
    | (refine' nE_B ?zqF ?zqX ?zqT ?zqe ?zqv ?zqn ?_ ?zqa ?zqg ?zqi ?zqb ?zqd; (case zqb => rfl); (case zqa => rfl); (case zqg => rfl); (case zqi => rfl); (case zqd => decide); (case zqF => k_asm); (case zqX => k_asm); (case zqT => k_asm); (case zqe => k_is); (case zqv => boot_fast); (case zqn => decide); k_whole)))
  k_with "binaryOp RShift int int" => (k_here; (with_reducible refine' shrN ?zqa ?_; (case zqa => (first | lia | omega)); k_whole); intro _ _; (try dsimp only))
  k_with "binaryOp RShift int int" => (k_here; (with_reducible refine shr1 ?_); intro _ _; (try dsimp only))
  k_with "binaryOp BitAnd int int" => (k_here; (with_reducible refine and1 ?_); intro _ _; (try dsimp only))
  k_with "call builtin:sum" => refine Stopped.intro ?_
  trivial
noncomputable def LShares (v : List Value) : Prop := IntsAre v [0, 12, 3, 2, 3, 12]
noncomputable def LNames (v : List Value) : Prop := StrsAre v [Str.ofString "OPTIMIZED", Str.ofString "NEWLOCALS", Str.ofString "VARARGS", Str.ofString "VARKEYWORDS", Str.ofString "NESTED"]
/-- names, shares and their cells -/
noncomputable def Base (L ln ls : Addr) (nms shs : List Value) (oN oS o3 o4 : Obj) : List (Addr × Obj) :=
  [(ls, W.listOf shs.toArray 0), (ln, W.listOf nms.toArray 0), (L + 1 + 1 + 1 + 1, o4), (L + 1 + 1 + 1, o3), (L + 1 + 1, oS), (L + 1, oN)]
noncomputable def BaseOk (ln ls : Addr) (nms shs : List Value) (oN oS : Obj) : Prop := LShares shs ∧ LNames nms ∧ oN.data = .cell (some (.ref ln)) ∧ oS.data = .cell (some (.ref ls))
inductive StA (s₁ : Shared) (ns : List Int) (h : Heap) : Prop
  | mk (m : Str → Option Value) (ln : Addr) (ls : Addr) (Dn : Addr) (oN : Obj) (oS : Obj) (o3 : Obj) (o4 : Obj) (nms : List Value) (shs : List Value) (ys : List Value) (cnt : Nat) (tups : List (Addr × Obj)) :
    (Fr s₁.heap s₁.heap.objs.size h (mapOf [("numbers", .ref Dn)] m)) →
    (News s₁.heap s₁.heap.objs.size h (((Dn, W.listOf ys.toArray cnt) :: Base s₁.heap.objs.size ln ls nms shs oN oS o3 o4) ++ tups)) →
    ((∀ p ∈ tups, p.2.cls = .type "tuple")) →
    (All2 (TN S2 s₁.heap tups) ys (nums ns)) →
    (BaseOk ln ls nms shs oN oS) →
    (o3.data = .cell none) →
    (o4.data = .cell none) →
    (∀ p ∈ Base s₁.heap.objs.size ln ls nms shs oN oS o3 o4 ++ tups, p.1 ≠ Dn) →
    StA s₁ ns h
set_option maxHeartbeats 8000000 in
noncomputable def lawA : { P : World → Shared → Addr → Addr → Heap → Nat → Prop // (∀ w s₁ fa a1 h tk ns, Ctx w s₁.heap s₁.heap → ns.length ≤ 63 → StA s₁ ns h → P w s₁ fa a1 h tk) →
  ∀ w s₁ fa a1 a2 pm doc h₁ tk₁ ax its ns o1 o2 o3 o4 m, Ctx w s₁.heap s₁.heap → s₁.heap.IsList ax (List.toArray its) → IntsAre its ns → ns.length ≤ 63 →
    Fr s₁.heap s₁.heap.objs.size h₁ m → m "script" = some (.ref ax) →
    News s₁.heap s₁.heap.objs.size h₁ [(s₁.heap.objs.size + 1 + 1 + 1 + 1, o4), (s₁.heap.objs.size + 1 + 1 + 1, o3), (s₁.heap.objs.size + 1 + 1, o2), (s₁.heap.objs.size + 1, o1)] →
    o1.data = .cell none → o2.data = .cell none → o3.data = .cell none → o4.data = .cell none → lawIn.1 w s₁ fa a1 a2 pm doc h₁ tk₁ } := by
  refine' ⟨_, fun H => ?_⟩
  rotate_left
  · intro w s₁ fa a1 a2 pm doc h₁ tk₁ ax its ns o1 o2 o3 o4 m C hl hi hlen F hm N d1 d2 d3 d4
    obtain ⟨p, loose, mean, mg, mb, T⟩ := C.T
    have X' := C.X
    replace F := fr_map [("script", .ref ax)] (by intro p hp; simp only [List.mem_cons, List.not_mem_nil, or_false] at hp; subst hp; assumption) F
    clear hm
    with_unfolding_all show wpAny _ _ _ _ _ _
    generalize hL : s₁.heap.objs.size = L at F N
    try dsimp only
    k_steps
    show wpAny _ _ _ _ _ _
    rename_i ln h₂ q1 h₃ oN dN tk₂ ls h₄ q2 h₅ oS F₅ N₅ dS
    refine my_Asg (cl := []) (fun _ => true) (fun i y objs => ∃ a arr e, y = .ref a ∧ objs = [(a, tupO arr 0)] ∧ (nums ns)[i]? = some e ∧ S2 e arr) (by with_unfolding_all rfl) (by with_unfolding_all rfl) rfl (by decide) (by with_unfolding_all rfl) (by with_unfolding_all rfl) ?_
    k_steps
    show wpAny _ _ _ _ _ _
    rename_i Da wsa ha hIa hCa hLa qa lb hb qb Dc wsc hc F₆ N₆ hIc qc
    have hlc : wsc.toArray.size = (nums ns).length := by
      rw [List.size_toArray, hIc.length]; unfold nums; rw [List.length_map]
    refine ready_list (target := .Name _ _) (items := wsc.toArray) rfl rfl (PySem.IsL.isList (N₆ _ (.head _)).1) fun I St s₂ Rd => AsgNext.intro Rd F₆ N₆ ?_ ?_ ?_
    · have := (nums_len ns).1
      rw [sizeLine_eq]; (first | lia | omega)
    · intro g C i v h tk m₁ cm₁ cells₁ extra hg1 hg2 hi hP F N hNc hex hall
      clear F₆ N₆
      obtain ⟨z, tz, rfl, hz⟩ := IntsAre.at hIc i v (by simpa using hP)
      try dsimp only [testsOf]
      k_steps
      rename_i F₇ N₇ hlt
      exact CEnd.one F₇ N N₇ ⟨_, _, numOf2 z, rfl, rfl, by unfold nums; rw [List.getElem?_map, hz]; rfl, _, _, rfl⟩ hall hlt
    · intro Dn h₇ tk₇ cnt ys F₇ N₇ hne hDn hM
      clear F₆ N₆
      obtain ⟨tups, Nt, hT, hc⟩ := collect (hM.tups hlc) F₇
      subst hL
      dsimp only
      refine H w s₁ fa a1 h₇ tk₇ ns C hlen ⟨_, ln, ls, Dn, oN, oS, o3, o4, [Value.str (Str.ofString "OPTIMIZED") tk₁, Value.str (Str.ofString "NEWLOCALS") (tk₁ + 1), Value.str (Str.ofString "VARARGS") (tk₁ + 1 + 1), Value.str (Str.ofString "VARKEYWORDS") (tk₁ + 1 + 1 + 1), Value.str (Str.ofString "NESTED") (tk₁ + 1 + 1 + 1 + 1)], [.int 0 tk₂, .int 12 (tk₂ + 1), .int 3 (tk₂ + 1 + 1), .int 2 (tk₂ + 1 + 1 + 1), .int 3 (tk₂ + 1 + 1 + 1 + 1), .int 12 (tk₂ + 1 + 1 + 1 + 1 + 1)], ys, cnt, tups, fr_map [("numbers", .ref Dn)] (by intro p hp; simp only [List.mem_cons, List.not_mem_nil, or_false] at hp; subst hp; rfl) F₇, ?_, hc, hT, ⟨?_, ?_, dN, dS⟩, d3, d4, ?_⟩
      · refine news_app (news_sub N₇ ?_) Nt
        intro p hp
        iterate 7 (rcases List.mem_cons.mp hp with rfl | hp; (· k_mem))
        cases hp
      · exact .cons _ _ (.cons _ _ (.cons _ _ (.cons _ _ (.cons _ _ (.cons _ _ .nil)))))
      · exact .cons _ _ (.cons _ _ (.cons _ _ (.cons _ _ (.cons _ _ .nil))))
      · intro p hp
        rcases List.mem_append.mp hp with hp | hp
        · refine hne p ?_
          iterate 6 (rcases List.mem_cons.mp hp with rfl | hp; (· k_mem))
          cases hp
        · exact tups_ne Nt hc (N₇ _ (.head _)).1 (by simp) p hp
end Mine
end
section
-- G3
open PySem PySem.W PyProof.Rows PySem.Calls PySem.Spec
namespace Mine
-- lines of the walk
theorem lines_G3_1 : True := by
  k_with_none
  k_with "execs nil" => (k_here; first | k_gentoks | (refine SeqQ.next ?_; k_gentoks) | refine wpAny_execs_nil ?_)
  k_with "execs cons" => (k_here; first | k_gentoks | (refine SeqQ.next ?_; k_gentoks) | refine execs_consS ?_)
  k_with "eval ListComp" => refine Stopped.intro ?_
  k_with "exec Assign cons ListComp" => refine Stopped.intro ?_
  k_with "exec While Compare cons nil" => refine Stopped.intro ?_
  k_with "exec While Name cons nil" => refine Stopped.intro ?_
  k_with "exec For" => refine Stopped.intro ?_
  k_with "exec For Name Name cons nil" => refine Stopped.intro ?_
  k_with "exec For Name Call cons nil" => refine Stopped.intro ?_
  k_with "exec For Name Call cons cons" => refine Stopped.intro ?_
  k_with "exec For Tuple Name cons nil" => refine Stopped.intro ?_
  k_with "exec For Tuple Call cons nil" => refine Stopped.intro ?_
  k_with "exec For Tuple Name cons cons" => refine Stopped.intro ?_
  k_with "pyIter ref" => refine Stopped.intro ?_
  k_with "call ref" => refine Stopped.intro ?_
  k_with "WhileStep2" => refine Stopped.intro ?_
  k_with "ForPost" => refine Stopped.intro ?_
  k_with "CEnd" => refine Stopped.intro ?_
  k_with "call type:range" => (k_here; (with_unfolding_all refine' range1 ?zqk1 ?zqk2 ?_; (case zqk1 => k_asm); (case zqk2 => k_asm); k_whole); intro _ _ _ _ _ _ _ _ _; (try k_sweep); (try dsimp only))
  k_with "storeName" => (k_here; (with_reducible show wpAny _ _ (storeName (compEnvC _ _ _ _) _ _) _ _ _); (with_unfolding_all refine' stE ?zqF ?zqN ?_ ?zqa ?zqb; (case zqF => k_asm); (case zqN => k_asm); (case zqa => rfl); (case zqb => rfl); k_whole); intro _ _ _ _; (try k_sweep); (try dsimp only))
  k_with "storeName" => (k_here; (first
    | (with_unfolding_all refine' st_int ?zqF ?zqN ?_ ?zqa ?zqb; (case zqF => k_asm); (case zqN => k_asm); (case zqa => rfl); (case zqb => rfl); k_whole; intro _ _ _ _ _)
    | (with_unfolding_all refine' st_str ?zqF ?zqN ?_ ?zqa ?zqb; (case zqF => k_asm); (case zqN => k_asm); (case zqa => rfl); (case zqb => rfl); k_whole; intro _ _ _ _ _)
    | (with_unfolding_all refine' st_any ?zqF ?zqN ?_ ?zqa ?zqb; (case zqF => k_asm); (case zqN => k_asm); (case zqa => rfl); (case zqb => rfl); k_whole; intro _ _ _ _)); (try k_sweep); (try dsimp only))
  k_with "eval Name" => (k_here; (with_reducible show wpAny _ _ (eval (Expr.Name _ _) (compEnvC _ _ _ _)) _ _ _); k_dflt (first
    | (refine' nE_L ?zqF ?zqv ?_ ?zqa ?zqb ?zqc; (case zqb => rfl); (case zqa => rfl); (case zqc => decide); (case zqF => k_asm); (case zqv => first | rfl | assumption); k_whole)
    | (refine' nE_CN ?zqN ?zqc ?zqm ?zqd ?_ ?zqa ?zqb ?zqe; (case zqb => rfl); (case zqa => rfl); (case zqe => decide); (case zqN => k_asm); (case zqc => rfl); (case zqm => k_mem); (case zqd => k_asm); k_whole)
    | (refine' nE_C ?zqF ?zqc ?zqm ?_ ?zqa ?zqb ?zqd; (case zqb => rfl); (case zqa => rfl); (case zqd => decide); (case zqF => k_asm); (case zqc => rfl); (case zqm => k_asm); k_whole)
    | (refine' nE_F ?zqF ?zqc ?zqm ?_ ?zqa ?zqb ?zqd ?zqe; (case zqb => rfl); (case zqa => rfl); (case zqd => decide); (case zqe => decide); (case zqF => k_asm); (case zqc => rfl); (case zqm => k_asm); k_whole)
    | (refine' nE_K ?zqF ?zqX ?zqT ?zqe ?_ ?zqa ?zqg ?zqb ?zqd; (case zqb => rfl); (case zqa => rfl); (case zqg => rfl); (case zqd => decide); (case zqF => k_asm); (case zqX => k_asm); (case zqT => k_asm); (case zqe => k_is); k_whole)
    | (refine' nE_B ?zqF ?zqX ?zqT ?zqe ?zqv ?zqn ?_ ?zqa ?zqg ?zqi ?zqb ?zqd; (case zqb => rfl); (case zqa => rfl); (case zqg => rfl); (case zqi => rfl); (case zqd => decide); (case zqF => k_asm); (case zqX => k_asm); (case zqT => k_asm); (case zqe => k_is); (case zqv => boot_fast); (case zqn => decide); k_whole)))
  k_with "binaryOp RShift int int" => (k_here; (with_reducible refine' shrN ?zqa ?_; (case zqa => (first | lia | omega)); k_whole); intro _ _; (try dsimp only))
  k_with "binaryOp RShift int int" => (k_here; (with_reducible refine shr1 ?_); intro _ _; (try dsimp only))
  k_with "binaryOp BitAnd int int" => (k_here; (with_reducible refine and1 ?_); intro _ _; (try dsimp only))
  k_with "call builtin:sum" => refine Stopped.intro ?_
  trivial
noncomputable def OctI (vs : List Value) (l : List (Int × Int)) (i : Nat) : Prop := vs.length = 3 * i ∧ ∀ (j : Nat) (e : Int × Int), j < i → l[j]? = some e → (0 : Int) ≤ e.1 ∧ e.1 < (16 : Int) ∧ (0 : Int) ≤ e.2 ∧ e.2 < (32 : Int) ∧
  ∃ t0 t1 t2, vs[3 * j]? = some (.int (64 + e.1) t0) ∧ vs[3 * j + 1]? = some (.int 64 t1) ∧ vs[3 * j + 2]? = some (.int e.2 t2)
theorem OctI.octs {vs : List Value} {l : List (Int × Int)} (h : OctI vs l l.length) : Octs vs.toArray l := by
  refine ⟨by rw [List.size_toArray]; exact h.1, fun j e he => ?_⟩
  obtain ⟨a1, a2, a3, a4, t0, t1, t2, b0, b1, b2⟩ := h.2 j e (List.getElem?_eq_some_iff.mp he).1 he
  exact ⟨a1, a2, a3, a4, t0, t1, t2, by simpa using b0, by simpa using b1, by simpa using b2⟩
theorem OctI.step {vs : List Value} {l : List (Int × Int)} {i : Nat} {e : Int × Int} {t0 t1 t2 : Tok} (h : OctI vs l i) (he : l[i]? = some e) (r : (0 : Int) ≤ e.1 ∧ e.1 < (16 : Int) ∧ (0 : Int) ≤ e.2 ∧ e.2 < (32 : Int)) :
    OctI (vs ++ [.int (64 + e.1) t0, .int 64 t1, .int e.2 t2]) l (i + 1) := by
  obtain ⟨hl, hj⟩ := h
  refine ⟨by rw [List.length_append, hl]; simp; (first | lia | omega), fun j e' hlt he' => ?_⟩
  by_cases q : j < i
  · obtain ⟨a1, a2, a3, a4, t0, t1, t2, b0, b1, b2⟩ := hj j e' q he'
    refine ⟨a1, a2, a3, a4, t0, t1, t2, ?_, ?_, ?_⟩ <;> (rw [List.getElem?_append_left (by (first | lia | omega))]; assumption)
  · have : j = i := by (first | lia | omega)
    subst this
    rw [he] at he'; cases he'
    refine ⟨r.1, r.2.1, r.2.2.1, r.2.2.2, t0, t1, t2, ?_, ?_, ?_⟩ <;> (rw [List.getElem?_append_right (by (first | lia | omega)), hl])
    · rw [show 3 * j - 3 * j = 0 by (first | lia | omega)]; rfl
    · rw [show 3 * j + 1 - 3 * j = 1 by (first | lia | omega)]; rfl
    · rw [show 3 * j + 2 - 3 * j = 2 by (first | lia | omega)]; rfl
inductive StB (s₁ : Shared) (ns : List Int) (h : Heap) : Prop
  | mk (m : Str → Option Value) (ln : Addr) (ls : Addr) (Dn : Addr) (mo : Addr) (oN : Obj) (oS : Obj) (o3 : Obj) (o4 : Obj) (nms : List Value) (shs : List Value) (ys : List Value) (cnt : Nat) (mv : List Value) (mcnt : Nat) (tups : List (Addr × Obj)) :
    (Fr s₁.heap s₁.heap.objs.size h (mapOf [("numbers", .ref Dn), ("modes", .ref mo)] m)) →
    (News s₁.heap s₁.heap.objs.size h ((mo, W.listOf mv.toArray mcnt) :: (Dn, W.listOf ys.toArray cnt) :: (Base s₁.heap.objs.size ln ls nms shs oN oS o3 o4 ++ tups))) →
    ((∀ p ∈ tups, p.2.cls = .type "tuple")) →
    (All2 (TN S2 s₁.heap tups) ys (nums ns)) →
    (IntsAre mv ((nums ns).map mode)) →
    (BaseOk ln ls nms shs oN oS) →
    (o3.data = .cell none) →
    (o4.data = .cell none) →
    ((∀ p ∈ Base s₁.heap.objs.size ln ls nms shs oN oS o3 o4 ++ tups, p.1 ≠ Dn)) →
    (∀ p ∈ (Dn, W.listOf ys.toArray cnt) :: (Base s₁.heap.objs.size ln ls nms shs oN oS o3 o4 ++ tups), p.1 ≠ mo) →
    StB s₁ ns h
inductive JO (oc Dn : Addr) (K : List (Addr × Obj)) (l : List (Int × Int)) (i : Nat) (m : Str → Option Value) (news : List (Addr × Obj)) : Prop
  | mk (vs : List Value) (c : Nat) :
    (news = (oc, W.listOf vs.toArray c) :: K) →
    (OctI vs l i) →
    (m "octets" = some (.ref oc)) →
    (m "numbers" = some (.ref Dn)) →
    JO oc Dn K l i m news
set_option maxHeartbeats 8000000 in
noncomputable def lawB : { P : World → Shared → Addr → Addr → Heap → Nat → Prop // (∀ w s₁ fa a1 h tk ns, Ctx w s₁.heap s₁.heap → ns.length ≤ 63 → StB s₁ ns h → P w s₁ fa a1 h tk) →
  ∀ w s₁ fa a1 h tk ns, Ctx w s₁.heap s₁.heap → ns.length ≤ 63 → StA s₁ ns h → lawA.1 w s₁ fa a1 h tk } := by
  refine' ⟨_, fun H => ?_⟩
  rotate_left
  · intro w s₁ fa a1 h tk ns C hlen ⟨m, ln, ls, Dn, oN, oS, o3, o4, nms, shs, ys, cnt, tups, F, N, hcl, hys, hB, d3, d4, hKD⟩
    obtain ⟨p, loose, mean, mg, mb, T⟩ := C.T
    have X' := C.X
    with_unfolding_all show wpAny _ _ _ _ _ _
    generalize hL : s₁.heap.objs.size = L at F N hKD
    simp only [List.cons_append] at N
    try dsimp only
    k_steps
    show wpAny _ _ _ _ _ _
    refine wpAny_For ?_
    k_steps
    show wpAny _ _ _ _ _ _
    rename_i oc h₂ q1 h₃ F₃ N₃
    obtain ⟨q1, q2⟩ := q1
    have q2 : ∀ p ∈ Base L ln ls nms shs oN oS o3 o4 ++ tups, p.1 < oc := kst_ltOf q2
    have htK : ∀ p ∈ tups, p ∈ Base L ln ls nms shs oN oS o3 o4 ++ tups := fun p hp => List.mem_append_right _ hp
    generalize hK : Base L ln ls nms shs oN oS o3 o4 ++ tups = K at N₃ q2 hKD htK
    have hoD : oc ≠ Dn := Nat.ne_of_gt q1
    refine my_for_listN (items := ys.toArray) (cnt := cnt) (JO oc Dn K (nums ns)) rfl rfl F₃ (news := (oc, W.listOf #[] 0) :: K) (news_sub N₃ (by simp +contextual)) (by
      intro q hq
      rcases List.mem_cons.mp hq with rfl | hq
      · exact hoD
      · exact hKD q hq) ⟨[], 0, rfl, ⟨rfl, fun j e h => absurd h (Nat.not_lt_zero _)⟩, rfl, rfl⟩ ?_ ?_
    · rintro I i v h₄ tk₄ m₁ news₁ extra hi hv ⟨vs, c, rfl, hO, e1, e2⟩ F₄ N₄ hex hI hcls
      clear F₃ N₃
      obtain ⟨e, he⟩ : ∃ e, (nums ns)[i]? = some e := ⟨_, List.getElem?_eq_getElem (by rw [← hys.length]; simpa using hi)⟩
      obtain ⟨v', hv', a, arr, n', rfl, ha, t1, t2, rfl⟩ := hys.get he
      rw [List.getElem?_toArray, hv'] at hv; cases hv
      have hr := nums_rng (List.mem_of_getElem? he)
      replace F₄ := fr_map [("octets", .ref oc), ("numbers", .ref Dn)] (by intro p hp'; simp only [List.mem_cons, List.not_mem_nil, or_false] at hp'; rcases hp' with rfl | rfl <;> assumption) F₄
      clear e1 e2
      have hta : h₄.IsTuple a #[.int e.1 t1, .int e.2 t2] := by
        refine ⟨tupO #[.int e.1 t1, .int e.2 t2] n', ?_, rfl, n', rfl⟩
        rcases ha with ha | ha
        · exact (N₄ _ (List.mem_append_left _ (.tail _ (htK _ ha)))).1
        · exact F₄.keep _ _ ha
      have hexo : ∀ p ∈ extra, p.1 ≠ oc := fun p hp => hex p hp _ (.head _)
      have hKo : ∀ p ∈ K ++ extra, p.1 ≠ oc := fun p hp => (List.mem_append.mp hp).elim (fun h => Nat.ne_of_lt (q2 p h)) (hexo p)
      simp only [List.cons_append] at N₄
      refine unpackN_ F₄ N₄ hta rfl rfl rfl fun h₅ F₅ N₅ => ?_
      clear F₄ N₄
      try dsimp only
      k_steps
      show wpAny _ _ _ _ _ _
      rename_i tk₅ lt h₆ F₆ N₆ q6
      have hvl : vs.length ≤ 15 := by have := hO.1; have := (nums_len ns).1; have := (List.getElem?_eq_some_iff.mp he).1; (first | lia | omega)
      refine kl_extend (l := vs ++ [Value.int (64 + e.1) _, Value.int 64 _, Value.int e.2 _]) F₆ N₆ (.head _) rfl (by simp) (by k_upd) (extend_door (by rw [sizeLine_eq]; simp; (first | lia | omega))) (by rw [sizeLine_eq]; simp; (first | lia | omega)) (by rw [sizeLine_eq]; simp; (first | lia | omega)) fun h₇ F₇ N₇ => ?_
      clear F₆ N₆
      try dsimp only
      k_steps
      refine ⟨h₇, _, _, _ :: K, rfl, F₇, (fun p hp => N₇ p (.tail _ hp)), ?_, ⟨_, _, rfl, hO.step he ⟨hr.1, hr.2.1, by (first | lia | omega), hr.2.2.2⟩, rfl, rfl⟩⟩
      intro q hq
      rcases List.mem_cons.mp hq with rfl | hq
      · exact hI (oc, W.listOf vs.toArray c) (.head _)
      · exact hI q (.tail _ hq)
    · rintro h₄ tk₄ m₁ news₁ ⟨vs, c, rfl, hO, e1, e2⟩ F₄ N₄
      clear F₃ N₃
      replace F₄ := fr_map [("octets", .ref oc), ("numbers", .ref Dn)] (by intro p hp'; simp only [List.mem_cons, List.not_mem_nil, or_false] at hp'; rcases hp' with rfl | rfl <;> assumption) F₄
      clear e1 e2
      have hsz : ys.toArray.size = (nums ns).length := by rw [List.size_toArray]; exact hys.length
      rw [hsz] at hO
      refine wpAny_execs_nil ?_
      try dsimp only
      k_steps
      show wpAny _ _ _ _ _ _
      have hKo : ∀ p ∈ K, p.1 ≠ oc := fun p hp => Nat.ne_of_lt (q2 p hp)
      have hnew : s₁.heap.get? L = none := by
        cases q : s₁.heap.get? L with
        | none => rfl
        | some o => exact absurd (Heap.lt_size q) (by rw [hL]; exact Nat.lt_irrefl _)
      have hoL : oc ≠ L := (N₄ _ (.tail _ (.head _))).2.1
      refine wpAny_mono (lread w s₁.heap _ _ oc vs.toArray (nums ns) s₁.heap [_] _ (by simp only [depth_deeper]; decide) (by simp only [units_deeper]; decide) rfl C rfl (.cons (by show ScopeKind.function ≠ .module; decide) rfl F₄.ns hnew trivial) F₄.keep (PySem.IsL.isList (N₄ _ (.tail _ (.head _))).1) ?hax hO.octs (by have := (nums_len ns).1; (first | lia | omega))) (fun r s' hs => ?_) fun _ _ e => e
      case hax => 
        intro hm
        exact hoL (List.mem_singleton.mp hm)
      obtain ⟨mo, h₅, tk₅, mvs, mcnt, rfl, rfl, hkp, hup, hmo, hmon, hmi⟩ := hs
      replace hkp : ∀ b o, b ≠ L → h₄.get? b = some o → h₅.get? b = some o := fun b o hb e => hkp b o (fun hm => hb (List.mem_singleton.mp hm)) e
      have hmL : mo ≠ L := fun q => by
        obtain ⟨oL, _, _, hL', _⟩ := F₄.ns
        have hL'' : h₄.get? L = some oL := hL'
        have hmon' : h₄.get? mo = none := hmon
        rw [q, hL''] at hmon'; cases hmon'
      have hmg : s₁.heap.get? mo = none := by
        cases q : s₁.heap.get? mo with
        | none => rfl
        | some o =>
          have h1 := F₄.keep _ _ q
          have hmon' : h₄.get? mo = none := hmon
          rw [h1] at hmon'; cases hmon'
      have hmK : ∀ p ∈ (Dn, W.listOf ys.toArray cnt) :: K, p.1 ≠ mo := fun p hp e => by
        have h1 : h₄.get? p.1 = some p.2 := by
          rcases List.mem_cons.mp hp with rfl | hp
          · exact (N₄ _ (.head _)).1
          · exact (N₄ _ (.tail _ (.tail _ hp))).1
        have hmon' : h₄.get? mo = none := hmon
        rw [e, hmon'] at h1; cases h1
      obtain ⟨mv, rfl⟩ : ∃ l : List Value, mvs = l.toArray := ⟨mvs.toList, by simp⟩
      replace hmi : IntsAre mv ((nums ns).map mode) := by simpa using hmi
      have N₅ : News s₁.heap L h₅ ((mo, W.listOf mv.toArray mcnt) :: (Dn, W.listOf ys.toArray cnt) :: K) := fun p hp => by
        rcases List.mem_cons.mp hp with rfl | hp
        · exact ⟨hmo, hmL, hmg⟩
        · rcases List.mem_cons.mp hp with rfl | hp
          · have z := N₄ _ (.head _)
            exact ⟨hkp _ _ z.2.1 z.1, z.2⟩
          · have z := N₄ p (.tail _ (.tail _ hp))
            exact ⟨hkp _ _ z.2.1 z.1, z.2⟩
      have F₅ := Fr.of_stays F₄ (fun b o e => hkp b o (fun q => by rw [q, hnew] at e; cases e) (F₄.keep b o e)) hup
      clear F₄ N₄ hkp hup hmo hmon hO vs
      try dsimp only
      k_steps
      show wpAny _ _ _ _ _ _
      rename_i h₆ F₆ N₆
      clear F₅
      refine my_Exp (cl := []) (fun _ => true) (fun i y _ => ∃ e, ((nums ns).map mode)[i]? = some e ∧ ∃ t, y = .int e t) (by with_unfolding_all rfl) rfl (by decide) ?_
      k_steps
      show wpAny _ _ _ _ _ _
      refine ready_list (target := .Tuple _ _ _) (items := ys.toArray) rfl rfl (PySem.IsL.isList (N₆ _ (.tail _ (.head _))).1) fun I St s₂ Rd => ExpNext.intro Rd F₆ N₆ ?_ ?_ ?_
      · have := (nums_len ns).1
        rw [sizeLine_eq, hsz]; (first | lia | omega)
      · intro g C' i v h tk m₁ cm₁ cells₁ extra hg1 hg2 hi hP F Y N hex hall
        obtain ⟨e, he⟩ : ∃ e, (nums ns)[i]? = some e := ⟨_, List.getElem?_eq_getElem (by rw [← hsz]; exact hi)⟩
        obtain ⟨v', hv', a, arr, n', rfl, ha, t1, t2, rfl⟩ := hys.get he
        have hv : ys.toArray[i]? = some v := hP
        rw [List.getElem?_toArray, hv'] at hv; cases hv
        have hta : h.IsTuple a #[.int e.1 t1, .int e.2 t2] := by
          refine ⟨tupO #[.int e.1 t1, .int e.2 t2] n', F.keep _ _ (hg1 _ _ ?_), rfl, n', rfl⟩
          rcases ha with ha | ha
          · exact (N₆ _ (.tail _ (.tail _ (htK _ ha)))).1
          · exact F₆.keep _ _ ha
        clear F₆ N₆
        refine unpackN_ F N hta rfl rfl rfl fun h₇ F₇ N₇ => ?_
        clear F N
        try dsimp only [testsOf]
        k_steps
        rename Fr _ _ _ _ => F₈
        rename News _ _ _ _ => N₈
        exact CEnd.of F₈ Y N₈ ⟨mode e, by rw [List.getElem?_map, he]; rfl, _, rfl⟩
      · intro D h₇ tk₇ cnt₇ zs up hDn F₇ N₇ hne hM
        have hz := All2.toInts (hM.vals (by rw [List.length_map]; exact hsz))
        clear F₆ N₆
        try dsimp only
        k_steps
        show wpAny _ _ _ _ _ _
        subst hK hL
        try dsimp only
        refine H w s₁ fa a1 h₇ tk₇ ns C hlen ⟨_, ln, ls, Dn, mo, oN, oS, o3, o4, nms, shs, ys, cnt, mv, mcnt, tups, fr_map [("numbers", .ref Dn), ("modes", .ref mo)] (by intro p hp'; simp only [List.mem_cons, List.not_mem_nil, or_false] at hp'; rcases hp' with rfl | rfl <;> rfl) F₇, (fun p hp => N₇ p (.tail _ hp)), hcl, hys, hmi, hB, d3, d4, hKD, hmK⟩
end Mine
end
section
-- G4
open PySem PySem.W PyProof.Rows PySem.Calls PySem.Spec
namespace Mine
-- lines of the walk
theorem lines_G4_1 : True := by
  k_with_none
  k_with "execs nil" => (k_here; first | k_gentoks | (refine SeqQ.next ?_; k_gentoks) | refine wpAny_execs_nil ?_)
  k_with "execs cons" => (k_here; first | k_gentoks | (refine SeqQ.next ?_; k_gentoks) | refine execs_consS ?_)
  k_with "eval ListComp" => refine Stopped.intro ?_
  k_with "exec Assign cons ListComp" => refine Stopped.intro ?_
  k_with "exec While Compare cons nil" => refine Stopped.intro ?_
  k_with "exec While Name cons nil" => refine Stopped.intro ?_
  k_with "exec For" => refine Stopped.intro ?_
  k_with "exec For Name Name cons nil" => refine Stopped.intro ?_
  k_with "exec For Name Call cons nil" => refine Stopped.intro ?_
  k_with "exec For Name Call cons cons" => refine Stopped.intro ?_
  k_with "exec For Tuple Name cons nil" => refine Stopped.intro ?_
  k_with "exec For Tuple Call cons nil" => refine Stopped.intro ?_
  k_with "exec For Tuple Name cons cons" => refine Stopped.intro ?_
  k_with "pyIter ref" => refine Stopped.intro ?_
  k_with "call ref" => refine Stopped.intro ?_
  k_with "WhileStep2" => refine Stopped.intro ?_
  k_with "ForPost" => refine Stopped.intro ?_
  k_with "CEnd" => refine Stopped.intro ?_
  k_with "call type:range" => (k_here; (with_unfolding_all refine' range1 ?zqk1 ?zqk2 ?_; (case zqk1 => k_asm); (case zqk2 => k_asm); k_whole); intro _ _ _ _ _ _ _ _ _; (try k_sweep); (try dsimp only))
  k_with "storeName" => (k_here; (with_reducible show wpAny _ _ (storeName (compEnvC _ _ _ _) _ _) _ _ _); (with_unfolding_all refine' stE ?zqF ?zqN ?_ ?zqa ?zqb; (case zqF => k_asm); (case zqN => k_asm); (case zqa => rfl); (case zqb => rfl); k_whole); intro _ _ _ _; (try k_sweep); (try dsimp only))
  k_with "storeName" => (k_here; (first
    | (with_unfolding_all refine' st_int ?zqF ?zqN ?_ ?zqa ?zqb; (case zqF => k_asm); (case zqN => k_asm); (case zqa => rfl); (case zqb => rfl); k_whole; intro _ _ _ _ _)
    | (with_unfolding_all refine' st_str ?zqF ?zqN ?_ ?zqa ?zqb; (case zqF => k_asm); (case zqN => k_asm); (case zqa => rfl); (case zqb => rfl); k_whole; intro _ _ _ _ _)
    | (with_unfolding_all refine' st_any ?zqF ?zqN ?_ ?zqa ?zqb; (case zqF => k_asm); (case zqN => k_asm); (case zqa => rfl); (case zqb => rfl); k_whole; intro _ _ _ _)); (try k_sweep); (try dsimp only))
  k_with "eval Name" => (k_here; (with_reducible show wpAny _ _ (eval (Expr.Name _ _) (compEnvC _ _ _ _)) _ _ _); k_dflt (first
    | (refine' nE_L ?zqF ?zqv ?_ ?zqa ?zqb ?zqc; (case zqb => rfl); (case zqa => rfl); (case zqc => decide); (case zqF => k_asm); (case zqv => first | rfl | assumption); k_whole)
    | (refine' nE_CN ?zqN ?zqc ?zqm ?zqd ?_ ?zqa ?zqb ?zqe; (case zqb => rfl); (case zqa => rfl); (case zqe => decide); (case zqN => k_asm); (case zqc => rfl); (case zqm => k_mem); (case zqd => k_asm); k_whole)
    | (refine' nE_C ?zqF ?zqc ?zqm ?_ ?zqa ?zqb ?zqd; (case zqb => rfl); (case zqa => rfl); (case zqd => decide); (case zqF => k_asm); (case zqc => rfl); (case zqm => k_asm); k_whole)
    | (refine' nE_F ?zqF ?zqc ?zqm ?_ ?zqa ?zqb ?zqd ?zqe; (case zqb => rfl); (case zqa => rfl); (case zqd => decide); (case zqe => decide); (case zqF => k_asm); (case zqc => rfl); (case zqm => k_asm); k_whole)
    | (refine' nE_K ?zqF ?zqX ?zqT ?zqe ?_ ?zqa ?zqg ?zqb ?zqd; (case zqb => rfl); (case zqa => rfl); (case zqg => rfl); (case zqd => decide); (case zqF => k_asm); (case zqX => k_asm); (case zqT => k_asm); (case zqe => k_is); k_whole)
    | (refine' nE_B ?zqF ?zqX ?zqT ?zqe ?zqv ?zqn ?_ ?zqa ?zqg ?zqi ?zqb ?zqd; (case zqb => rfl); (case zqa => rfl); (case zqg => rfl); (case zqi => rfl); (case zqd => decide); (case zqF => k_asm); (case zqX => k_asm); (case zqT => k_asm); (case zqe => k_is); (case zqv => boot_fast); (case zqn => decide); k_whole)))
  k_with "binaryOp RShift int int" => (k_here; (with_reducible refine' shrN ?zqa ?_; (case zqa => (first | lia | omega)); k_whole); intro _ _; (try dsimp only))
  k_with "binaryOp RShift int int" => (k_here; (with_reducible refine shr1 ?_); intro _ _; (try dsimp only))
  k_with "binaryOp BitAnd int int" => (k_here; (with_reducible refine and1 ?_); intro _ _; (try dsimp only))
  k_with "call builtin:sum" => refine Stopped.intro ?_
  trivial
theorem lines_G4_2 : True := by
  k_with "storeName" => (k_here; (with_reducible show wpAny _ _ (storeName (compEnvC _ _ _ _) _ _) _ _ _); k_dflt (refine' st_cellE ?zqF ?zqN ?zqc ?zqU ?zqd ?_ ?zqa ?zqb; (case zqa => rfl); (case zqb => rfl); (case zqF => k_asm); (case zqN => k_asm); (case zqc => rfl); (case zqU => k_updF); (case zqd => k_asm); k_whole); intro _ _ _ zqN; (try dsimp only at zqN); revert zqN; intro _ _; (try k_sweep))
  trivial
inductive StC (s₁ : Shared) (ns : List Int) (h : Heap) : Prop
  | mk (m : Str → Option Value) (ln : Addr) (ls : Addr) (Dn : Addr) (mo : Addr) (ro : Addr) (sg : Addr) (oN : Obj) (oS : Obj) (o3 : Obj) (o4 : Obj) (nms : List Value) (shs : List Value) (ys : List Value) (cnt : Nat) (mv : List Value) (mcnt : Nat) (rvs : List Value) (rcnt : Nat) (svs : List Value) (scnt : Nat) (tups : List (Addr × Obj)) :
    (Fr s₁.heap s₁.heap.objs.size h (mapOf [("numbers", .ref Dn), ("modes", .ref mo), ("rows", .ref ro), ("signs", .ref sg)] m)) →
    (News s₁.heap s₁.heap.objs.size h ((sg, W.listOf svs.toArray scnt) :: (ro, W.listOf rvs.toArray rcnt) :: (mo, W.listOf mv.toArray mcnt) :: (Dn, W.listOf ys.toArray cnt) :: (Base s₁.heap.objs.size ln ls nms shs oN oS o3 o4 ++ tups))) →
    ((∀ p ∈ tups, p.2.cls = .type "tuple")) →
    (All2 (TN S2 s₁.heap tups) ys (nums ns)) →
    (IntsAre mv ((nums ns).map mode)) →
    (StrsAre rvs (((nums ns).map mode).map row)) →
    (StrsAre svs ((nums ns).map fun e => sgn e.2)) →
    (BaseOk ln ls nms shs oN oS) →
    (o3.data = .cell none) →
    (o4.data = .cell none) →
    StC s₁ ns h
set_option maxHeartbeats 8000000 in
noncomputable def lawC : { P : World → Shared → Addr → Addr → Heap → Nat → Prop // (∀ w s₁ fa a1 h tk ns, Ctx w s₁.heap s₁.heap → ns.length ≤ 63 → StC s₁ ns h → P w s₁ fa a1 h tk) →
  ∀ w s₁ fa a1 h tk ns, Ctx w s₁.heap s₁.heap → ns.length ≤ 63 → StB s₁ ns h → lawB.1 w s₁ fa a1 h tk } := by
  refine' ⟨_, fun H => ?_⟩
  rotate_left
  · intro w s₁ fa a1 h tk ns C hlen ⟨m, ln, ls, Dn, mo, oN, oS, o3, o4, nms, shs, ys, cnt, mv, mcnt, tups, F, N, hcl, hys, hmi, hB, d3, d4, hKD, hmK⟩
    obtain ⟨p, loose, mean, mg, mb, T⟩ := C.T
    have X' := C.X
    have T' := T
    with_unfolding_all show wpAny _ _ _ _ _ _
    generalize hL : s₁.heap.objs.size = L at F N hKD hmK
    have htK : ∀ p ∈ tups, p ∈ Base L ln ls nms shs oN oS o3 o4 ++ tups := fun p hp => List.mem_append_right _ hp
    generalize hK : Base L ln ls nms shs oN oS o3 o4 ++ tups = K at N hKD hmK htK
    have hsz : ys.toArray.size = (nums ns).length := by rw [List.size_toArray]; exact hys.length
    have hmz : mv.toArray.size = ((nums ns).map mode).length := by rw [List.size_toArray]; exact hmi.length
    have hn5 := (nums_len ns).1
    try dsimp only
    k_steps
    show wpAny _ _ _ _ _ _
    refine my_Asg (cl := []) (fun _ => true) (fun i y _ => ∃ e, ((nums ns).map mode)[i]? = some e ∧ ∃ t, y = .str (row e) t) (by with_unfolding_all rfl) (by with_unfolding_all rfl) rfl (by decide) (by with_unfolding_all rfl) (by with_unfolding_all rfl) ?_
    k_steps
    show wpAny _ _ _ _ _ _
    refine ready_list (target := .Name _ _) (items := mv.toArray) rfl rfl (PySem.IsL.isList (N _ (.head _)).1) fun I St s₂ Rd => AsgNext.intro Rd F N ?_ ?_ ?_
    · rw [sizeLine_eq, hmz, List.length_map]; (first | lia | omega)
    · intro g C' i v h tk m₁ cm₁ cells₁ extra hg1 hg2 hi hP F₁ Y N₁ hex hall
      have hCtx : ∀ {h : Heap} {m : Str → Option Value}, Fr g C' h m → Ctx w s₁.heap h := fun F' => ⟨C.X, C.T, fun b o e => F'.keep _ _ (hg1 _ _ (F.keep _ _ e))⟩
      have X₂ := X'.keeps (h' := g) fun b o e => hg1 _ _ (F.keep _ _ e)
      have T₂ := T.keeps (h' := g) fun b o e => hg1 _ _ (F.keep _ _ e)
      clear F N X' T T'
      obtain ⟨z, tz, rfl, hz⟩ := IntsAre.at hmi i v (by simpa using hP)
      try dsimp only [testsOf]
      k_steps
      show wpAny _ _ _ _ _ _
      rename Fr _ _ _ _ => F₂
      rename News _ _ _ _ => N₂
      refine pure_call (fmode w s₁.heap _ _ z _ _ (by simp only [depth_deeper]; decide) (by simp only [units_deeper]; decide) rfl (hCtx F₂)) F₂ N₂ ?_
      rintro _ h₃ tk₃ ⟨t₃, rfl⟩ F₃ N₃
      exact CEnd.of F₃ Y N₃ ⟨z, hz, _, rfl⟩
    · intro rw_ h₁ tk₁ cnt₁ rvs F₁ N₁ hneR hDR hM
      have hr : StrsAre rvs (((nums ns).map mode).map row) := All2.toStrs (All2.of_map (R := fun y e => ∃ t, y = Value.str e t) (hM.vals hmz))
      clear F N hM
      try dsimp only
      k_steps
      show wpAny _ _ _ _ _ _
      refine my_Asg (cl := []) (fun _ => true) (fun i y _ => ∃ e, (nums ns)[i]? = some e ∧ ∃ t, y = .str (sgn e.2) t) (by with_unfolding_all rfl) (by with_unfolding_all rfl) rfl (by decide) (by with_unfolding_all rfl) (by with_unfolding_all rfl) ?_
      k_steps
      show wpAny _ _ _ _ _ _
      have hDn : (Dn, W.listOf ys.toArray cnt) ∈ (rw_, W.listOf rvs.toArray cnt₁) :: (mo, W.listOf mv.toArray mcnt) :: (Dn, W.listOf ys.toArray cnt) :: K := .tail _ (.tail _ (.head _))
      refine ready_list (target := .Tuple _ _ _) (items := ys.toArray) rfl rfl (PySem.IsL.isList (N₁ _ hDn).1) fun I St s₂ Rd => AsgNext.intro Rd F₁ N₁ ?_ ?_ ?_
      · rw [sizeLine_eq, hsz]; (first | lia | omega)
      · intro g C' i v h tk m₁ cm₁ cells₁ extra hg1 hg2 hi hP F Y N hex hall
        obtain ⟨e, he⟩ : ∃ e, (nums ns)[i]? = some e := ⟨_, List.getElem?_eq_getElem (by rw [← hsz]; exact hi)⟩
        obtain ⟨v', hv', a, arr, n', rfl, ha, t1, t2, rfl⟩ := hys.get he
        have hv : ys.toArray[i]? = some v := hP
        rw [List.getElem?_toArray, hv'] at hv; cases hv
        have her := nums_rng (List.mem_of_getElem? he)
        have hta : h.IsTuple a #[.int e.1 t1, .int e.2 t2] := by
          refine ⟨tupO #[.int e.1 t1, .int e.2 t2] n', F.keep _ _ (hg1 _ _ ?_), rfl, n', rfl⟩
          rcases ha with ha | ha
          · exact (N₁ _ (.tail _ (.tail _ (.tail _ (htK _ ha))))).1
          · exact F₁.keep _ _ ha
        have X₂ := X'.keeps (h' := g) fun b o e => hg1 _ _ (F₁.keep _ _ e)
        have T₂ := T.keeps (h' := g) fun b o e => hg1 _ _ (F₁.keep _ _ e)
        clear F₁ N₁ X' T T'
        refine unpackN_ F N hta rfl rfl rfl fun h₇ F₇ N₇ => ?_
        clear F N
        have hexC : ∀ p ∈ extra, p.1 ≠ C' + 1 := fun p hp => hex p hp _ (.head _)
        cases Y with
        | cons hc Y =>
          cases Y
          simp only [List.cons_append, List.nil_append] at N₇
          try dsimp only [testsOf]
          k_steps
          show wpAny _ _ _ _ _ _
          rename Fr _ _ _ _ => F₈
          rename News _ _ _ _ => N₈
          rename (_ : Obj).data = .cell (some _) => d₈
          refine my_Exp (cl := [(Str.ofString "rights", C' + 1)]) (fun _ => true) (fun i y _ => ∃ q, (sgL e.2)[i]? = some q ∧ ∃ t, y = Value.str q t) (by with_unfolding_all rfl) rfl (by decide) ?_
          k_steps
          show wpAny _ _ _ _ _ _
          rename Fr _ _ _ _ => F₉
          rename News _ _ _ _ => N₉
          rename IsRange _ _ _ _ _ _ _ _ => hR₉
          refine ready_range (n := 5) (target := .Name _ _) rfl rfl hR₉ (by (first | lia | omega)) fun I St s₂ Rd => ExpNext.intro Rd F₉ N₉ ?_ ?_ ?_
          · rw [sizeLine_eq]; (first | lia | omega)
          · intro g₂ C₂ j v h₁₀ tk₁₀ m₂ cm₂ cells₂ extra₂ hh1 hh2 hj hP₂ F₁₀ Y₁₀ N₁₀ hex₂ hall₂
            obtain ⟨tj, rfl⟩ := hP₂
            have hcell : g₂.IsCell (C' + 1) (some (.int e.2 t2)) := ⟨_, hh1 _ _ (N₉ _ (.head _)).1, d₈⟩
            have X₃ := X₂.keeps (h' := g₂) fun b o e => hh1 _ _ (F₉.keep _ _ e)
            clear F₉ N₉ X₂ T₂
            try dsimp only [testsOf]
            k_steps
            · rename Fr _ _ _ _ => F₁₁
              rename News _ _ _ _ => N₁₁
              rename _ ≠ 0 => hb
              rw [Int.toNat_natCast] at hb
              exact CEnd.of F₁₁ Y₁₀ N₁₁ ⟨_, sgL_get _ hj, _, by rw [if_neg hb]⟩
            · rename Fr _ _ _ _ => F₁₁
              rename News _ _ _ _ => N₁₁
              rename _ % 2 = 0 => hb
              rw [Int.toNat_natCast] at hb
              exact CEnd.of F₁₁ Y₁₀ N₁₁ ⟨_, sgL_get _ hj, _, by rw [if_pos hb]⟩
          · intro D h₁₀ tk₁₀ cnt₁₀ zs up hDn' F₁₀ N₁₀ hneZ hMz
            have hzs : StrsAre zs (sgL e.2) := All2.toStrs (hMz.vals (R := fun y q => ∃ t, y = Value.str q t) (by unfold sgL; simp))
            clear hMz F₉ N₉ up
            try dsimp only
            k_steps
            show wpAny _ _ _ _ _ _
            refine join_listW (PySem.IsL.isList (N₁₀ _ (.head _)).1) hzs (by decide) (sgL_weight (by (first | lia | omega)) her.2.2.2) fun t₁₁ tk₁₁ => ?_
            exact CEnd.of F₁₀ (.cons (cm := fun _ => some (.int e.2 t2)) d₈ .nil) (fun p hp => N₁₀ p (.tail _ hp)) ⟨e, he, _, rfl⟩
      · intro sg h₂ tk₂ cnt₂ svs F₂ N₂ hneS hDS hM
        have hs : StrsAre svs ((nums ns).map fun e => sgn e.2) := All2.toStrs (All2.of_map (R := fun y e => ∃ t, y = Value.str e t) (hM.vals hsz))
        clear F₁ N₁ hM
        try dsimp only
        subst hK hL
        refine H w s₁ fa a1 h₂ tk₂ ns C hlen ⟨_, ln, ls, Dn, mo, rw_, sg, oN, oS, o3, o4, nms, shs, ys, cnt, mv, mcnt, rvs, cnt₁, svs, cnt₂, tups, fr_map [("numbers", .ref Dn), ("modes", .ref mo), ("rows", .ref rw_), ("signs", .ref sg)] (by intro p hp'; simp only [List.mem_cons, List.not_mem_nil, or_false] at hp'; rcases hp' with rfl | rfl | rfl | rfl <;> rfl) F₂, N₂, hcl, hys, hmi, hr, hs, hB, d3, d4⟩
end Mine
end
section
-- G5
open PySem PySem.W PyProof.Rows PySem.Calls PySem.Spec
namespace Mine
-- lines of the walk
theorem lines_G5_1 : True := by
  k_with_none
  k_with "execs nil" => (k_here; first | k_gentoks | (refine SeqQ.next ?_; k_gentoks) | refine wpAny_execs_nil ?_)
  k_with "execs cons" => (k_here; first | k_gentoks | (refine SeqQ.next ?_; k_gentoks) | refine execs_consS ?_)
  k_with "eval ListComp" => refine Stopped.intro ?_
  k_with "exec Assign cons ListComp" => refine Stopped.intro ?_
  k_with "exec While Compare cons nil" => refine Stopped.intro ?_
  k_with "exec While Name cons nil" => refine Stopped.intro ?_
  k_with "exec For" => refine Stopped.intro ?_
  k_with "exec For Name Name cons nil" => refine Stopped.intro ?_
  k_with "exec For Name Call cons nil" => refine Stopped.intro ?_
  k_with "exec For Name Call cons cons" => refine Stopped.intro ?_
  k_with "exec For Tuple Name cons nil" => refine Stopped.intro ?_
  k_with "exec For Tuple Call cons nil" => refine Stopped.intro ?_
  k_with "exec For Tuple Name cons cons" => refine Stopped.intro ?_
  k_with "pyIter ref" => refine Stopped.intro ?_
  k_with "call ref" => refine Stopped.intro ?_
  k_with "WhileStep2" => refine Stopped.intro ?_
  k_with "ForPost" => refine Stopped.intro ?_
  k_with "CEnd" => refine Stopped.intro ?_
  k_with "call type:range" => (k_here; (with_unfolding_all refine' range1 ?zqk1 ?zqk2 ?_; (case zqk1 => k_asm); (case zqk2 => k_asm); k_whole); intro _ _ _ _ _ _ _ _ _; (try k_sweep); (try dsimp only))
  k_with "storeName" => (k_here; (with_reducible show wpAny _ _ (storeName (compEnvC _ _ _ _) _ _) _ _ _); (with_unfolding_all refine' stE ?zqF ?zqN ?_ ?zqa ?zqb; (case zqF => k_asm); (case zqN => k_asm); (case zqa => rfl); (case zqb => rfl); k_whole); intro _ _ _ _; (try k_sweep); (try dsimp only))
  k_with "storeName" => (k_here; (first
    | (with_unfolding_all refine' st_int ?zqF ?zqN ?_ ?zqa ?zqb; (case zqF => k_asm); (case zqN => k_asm); (case zqa => rfl); (case zqb => rfl); k_whole; intro _ _ _ _ _)
    | (with_unfolding_all refine' st_str ?zqF ?zqN ?_ ?zqa ?zqb; (case zqF => k_asm); (case zqN => k_asm); (case zqa => rfl); (case zqb => rfl); k_whole; intro _ _ _ _ _)
    | (with_unfolding_all refine' st_any ?zqF ?zqN ?_ ?zqa ?zqb; (case zqF => k_asm); (case zqN => k_asm); (case zqa => rfl); (case zqb => rfl); k_whole; intro _ _ _ _)); (try k_sweep); (try dsimp only))
  k_with "eval Name" => (k_here; (with_reducible show wpAny _ _ (eval (Expr.Name _ _) (compEnvC _ _ _ _)) _ _ _); k_dflt (first
    | (refine' nE_L ?zqF ?zqv ?_ ?zqa ?zqb ?zqc; (case zqb => rfl); (case zqa => rfl); (case zqc => decide); (case zqF => k_asm); (case zqv => first | rfl | assumption); k_whole)
    | (refine' nE_CN ?zqN ?zqc ?zqm ?zqd ?_ ?zqa ?zqb ?zqe; (case zqb => rfl); (case zqa => rfl); (case zqe => decide); (case zqN => k_asm); (case zqc => rfl); (case zqm => k_mem); (case zqd => k_asm); k_whole)
    | (refine' nE_C ?zqF ?zqc ?zqm ?_ ?zqa ?zqb ?zqd; (case zqb => rfl); (case zqa => rfl); (case zqd => decide); (case zqF => k_asm); (case zqc => rfl); (case zqm => k_asm); k_whole)
    | (refine' nE_F ?zqF ?zqc ?zqm ?_ ?zqa ?zqb ?zqd ?zqe; (case zqb => rfl); (case zqa => rfl); (case zqd => decide); (case zqe => decide); (case zqF => k_asm); (case zqc => rfl); (case zqm => k_asm); k_whole)
    | (refine' nE_K ?zqF ?zqX ?zqT ?zqe ?_ ?zqa ?zqg ?zqb ?zqd; (case zqb => rfl); (case zqa => rfl); (case zqg => rfl); (case zqd => decide); (case zqF => k_asm); (case zqX => k_asm); (case zqT => k_asm); (case zqe => k_is); k_whole)
    | (refine' nE_B ?zqF ?zqX ?zqT ?zqe ?zqv ?zqn ?_ ?zqa ?zqg ?zqi ?zqb ?zqd; (case zqb => rfl); (case zqa => rfl); (case zqg => rfl); (case zqi => rfl); (case zqd => decide); (case zqF => k_asm); (case zqX => k_asm); (case zqT => k_asm); (case zqe => k_is); (case zqv => boot_fast); (case zqn => decide); k_whole)))
  k_with "binaryOp RShift int int" => (k_here; (with_reducible refine' shrN ?zqa ?_; (case zqa => (first | lia | omega)); k_whole); intro _ _; (try dsimp only))
  k_with "binaryOp RShift int int" => (k_here; (with_reducible refine shr1 ?_); intro _ _; (try dsimp only))
  k_with "binaryOp BitAnd int int" => (k_here; (with_reducible refine and1 ?_); intro _ _; (try dsimp only))
  k_with "call builtin:sum" => refine Stopped.intro ?_
  trivial
theorem lines_G5_2 : True := by
  k_with "compareOp NotEq ref ref" => refine Stopped.intro ?_
  k_with "binaryOp Add str str" => ((with_reducible show wpAny _ _ (binaryOp _ _ (Value.str (Txt.sliceBy _ _ _ _) _)) _ _ _); refine Stopped.intro ?_)
  k_with "call type:zip" => refine Stopped.intro ?_
  k_with "assign Tuple" => refine Stopped.intro ?_
  trivial
noncomputable def rightsOf (ns : List Int) : List Nat := (nums ns).map fun e => e.2.toNat
theorem modes_are : ∀ {vs : List Value} {l : List (Int × Int)}, (∀ e ∈ l, 0 ≤ e.1 ∧ e.1 < 16 ∧ 1 ≤ e.2 ∧ e.2 < 32) → IntsAre vs (l.map mode) → All2 ModeIs vs (l.map fun e => e.2.toNat)
  | _, [], _, .nil => .nil
  | _, e :: l, h, .cons _ t r => by
    obtain ⟨h1, h2, h3, h4⟩ := h e (.head _)
    exact .cons ⟨e.1, t, by rw [Int.toNat_of_nonneg (by (first | lia | omega))]; rfl, h1, h2, (by show 1 ≤ e.2.toNat; (first | lia | omega)), (by show e.2.toNat < 32; (first | lia | omega))⟩ (modes_are (fun e he => h e (.tail _ he)) r)
inductive StD (s₁ : Shared) (ns : List Int) (h : Heap) : Prop
  | mk (m : Str → Option Value) (ln : Addr) (ls : Addr) (sg : Addr) (lg : Addr) (oN : Obj) (oS : Obj) (o3 : Obj) (o4 : Obj) (nms : List Value) (shs : List Value) (svs : List Value) (scnt : Nat) (lvs : List Value) (lcnt : Nat) (tups : List (Addr × Obj)) :
    (Fr s₁.heap s₁.heap.objs.size h (mapOf [("signs", .ref sg), ("log", .ref lg)] m)) →
    (News s₁.heap s₁.heap.objs.size h ((lg, W.listOf lvs.toArray lcnt) :: (sg, W.listOf svs.toArray scnt) :: (Base s₁.heap.objs.size ln ls nms shs oN oS o3 o4 ++ tups))) →
    ((∀ p ∈ tups, p.2.cls = .type "tuple")) →
    (All2 (TN (SL (rightsOf ns)) s₁.heap tups) lvs (logN (rightsOf ns) 192)) →
    (StrsAre svs ((nums ns).map fun e => sgn e.2)) →
    (BaseOk ln ls nms shs oN oS) →
    (o3.data = .cell none) →
    (o4.data = .cell none) →
    (∀ p ∈ (sg, W.listOf svs.toArray scnt) :: Base s₁.heap.objs.size ln ls nms shs oN oS o3 o4, p.1 ≠ lg) →
    StD s₁ ns h
set_option maxHeartbeats 8000000 in
noncomputable def lawD : { P : World → Shared → Addr → Addr → Heap → Nat → Prop // (∀ w s₁ fa a1 h tk ns, Ctx w s₁.heap s₁.heap → ns.length ≤ 63 → StD s₁ ns h → P w s₁ fa a1 h tk) →
  ∀ w s₁ fa a1 h tk ns, Ctx w s₁.heap s₁.heap → ns.length ≤ 63 → StC s₁ ns h → lawC.1 w s₁ fa a1 h tk } := by
  refine' ⟨_, fun H => ?_⟩
  rotate_left
  · intro w s₁ fa a1 h tk ns C hlen ⟨m, ln, ls, Dn, mo, ro, sg, oN, oS, o3, o4, nms, shs, ys, cnt, mv, mcnt, rvs, rcnt, svs, scnt, tups, F, N, hcl, hys, hmi, hr, hs, hB, d3, d4⟩
    obtain ⟨p, loose, mean, mg, mb, T⟩ := C.T
    have X' := C.X
    have T' := T
    with_unfolding_all show wpAny _ _ _ _ _ _
    generalize hL : s₁.heap.objs.size = L at F N
    have htK : ∀ p ∈ tups, p ∈ Base L ln ls nms shs oN oS o3 o4 ++ tups := fun p hp => List.mem_append_right _ hp
    generalize hK : Base L ln ls nms shs oN oS o3 o4 ++ tups = K at N htK
    have hsz : ys.toArray.size = (nums ns).length := by rw [List.size_toArray]; exact hys.length
    have hmz : mv.toArray.size = ((nums ns).map mode).length := by rw [List.size_toArray]; exact hmi.length
    have hssz : svs.toArray.size = (nums ns).length := by rw [List.size_toArray, hs.length, List.length_map]
    have hn5 := (nums_len ns).1
    try dsimp only
    k_steps
    show wpAny _ _ _ _ _ _
    refine my_Exp (cl := []) (fun _ => true) (fun i y _ => ∃ e, (((nums ns).map mode).map row)[i]? = some e ∧ ∃ t, y = .str e t) (by with_unfolding_all rfl) rfl (by decide) ?_
    k_steps
    show wpAny _ _ _ _ _ _
    have hDn : (Dn, W.listOf ys.toArray cnt) ∈ (sg, W.listOf svs.toArray scnt) :: (ro, W.listOf rvs.toArray rcnt) :: (mo, W.listOf mv.toArray mcnt) :: (Dn, W.listOf ys.toArray cnt) :: K := .tail _ (.tail _ (.tail _ (.head _)))
    refine ready_zip rfl (PySem.IsL.isList (N _ hDn).1) (PySem.IsL.isList (N _ (.head _)).1) fun I TI TO i1 i2 St s₂ Rd => ExpNext.intro Rd F N ?_ ?_ ?_
    · rw [sizeLine_eq, hsz]; (first | lia | omega)
    · intro g C' i v h₁ tk₁ m₁ cm₁ cells₁ extra hg1 hg2 hi hP F₁ Y N₁ hex hall
      obtain ⟨Tz, vals, rfl, hTz, x, y, hx, hy, rfl⟩ := hP
      obtain ⟨e, he⟩ : ∃ e, (nums ns)[i]? = some e := ⟨_, List.getElem?_eq_getElem (by rw [← hsz]; exact Nat.lt_of_lt_of_le hi (Nat.min_le_left _ _))⟩
      obtain ⟨v', hv', a, arr, n', rfl, ha, t1, t2, rfl⟩ := hys.get he
      rw [List.getElem?_toArray, hv'] at hx; cases hx
      obtain ⟨tx, hsx⟩ := StrsAre.at hs (j := i) (y := sgn e.2) (by rw [List.getElem?_map, he]; rfl)
      rw [List.getElem?_toArray, hsx] at hy; cases hy
      have hSl : (sgn e.2).length = 5 := sgn_len (by have := nums_rng (List.mem_of_getElem? he); (first | lia | omega)) (nums_rng (List.mem_of_getElem? he)).2.2.2
      generalize hS : sgn e.2 = S at hsx hTz hSl
      have her := nums_rng (List.mem_of_getElem? he)
      have hta : g.get? a = some (tupO #[.int e.1 t1, .int e.2 t2] n') := by
        refine hg1 _ _ ?_
        rcases ha with ha | ha
        · exact (N _ (.tail _ (.tail _ (.tail _ (.tail _ (htK _ ha)))))).1
        · exact F.keep _ _ ha
      have X₂ := X'.keeps (h' := g) fun b o e => hg1 _ _ (F.keep _ _ e)
      have T₂ := T.keeps (h' := g) fun b o e => hg1 _ _ (F.keep _ _ e)
      clear F N X' T T'
      refine unpackN_ F₁ N₁ hTz rfl rfl rfl fun h₂ F₂ N₂ => ?_
      try dsimp only [testsOf]
      k_steps
      show wpAny _ _ (assign _ _ _) _ _ _
      refine unpackN_ F₂ N₂ (⟨_, F₂.keep _ _ hta, rfl, n', rfl⟩ : h₂.IsTuple a _) rfl rfl rfl fun h₃ F₃ N₃ => ?_
      clear F₂ N₂ F₁ N₁
      try dsimp only
      k_steps
      rename Fr _ _ _ _ => F₅
      rename News _ _ _ _ => N₅
      show wpAny _ _ (binaryOp .Add _ _) _ _ _
      refine PyProof.Rows.add_str (fun t₆ tk₆ => ?_) ?_
      · refine CEnd.of F₅ Y N₅ ⟨row (mode e), by rw [List.getElem?_map, List.getElem?_map, he]; rfl, t₆, ?_⟩
        show Value.str _ t₆ = Value.str (row (e.1 * 4096 + e.2)) t₆
        rw [← row_is her.1 her.2.1 her.2.2.1 her.2.2.2 0, hS]
        rfl
      · rw [PySem.Str.length_append, PyProof.Rows.step_rev_len, hSl, sizeLine_eq]
        have q1 : (Txt.item (Str.ofString "?pc?d?b?-?l?s???") e.1).length = 1 := rfl
        have q2 : (Str.ofString "----").length = 4 := by decide
        (first | lia | omega)
    · intro D h₁ tk₁ cnt₁ zs up hDn' F₁ N₁ hne hM
      have hz : StrsAre zs (((nums ns).map mode).map row) := All2.toStrs (hM.vals (R := fun y e => ∃ t, y = Value.str e t) (by rw [hsz, hssz, Nat.min_self, List.length_map, List.length_map]))
      have hok : ∀ x ∈ ((nums ns).map mode).map row, PyData.strOk x = true := fun x hx => by
        obtain ⟨z, hz, rfl⟩ := List.mem_map.mp hx
        obtain ⟨e, he, rfl⟩ := List.mem_map.mp hz
        have := nums_rng he
        exact row_ok this.1 this.2.1 (by (first | lia | omega)) this.2.2.2
      clear F N hM
      generalize ((nums ns).map mode).map row = RS at hz hr hok
      try dsimp only
      k_steps
      show wpAny _ _ _ _ _ _
      refine ne_strs_self (PySem.IsL.isList (N₁ _ (.tail _ (.tail _ (.head _)))).1) (PySem.IsL.isList (N₁ _ (.head _)).1) hr hz hok (by simp only [units_deeper]; decide) ?_
      replace N₁ : News s₁.heap L h₁ ((sg, W.listOf svs.toArray scnt) :: (mo, W.listOf mv.toArray mcnt) :: K) := news_sub N₁ (by
        intro p hp
        iterate 2 (rcases List.mem_cons.mp hp with rfl | hp; (· k_mem))
        exact .tail _ (.tail _ (.tail _ (.tail _ (.tail _ hp)))))
      clear hr hz hne hDn'
      try dsimp only
      k_steps
      show wpAny _ _ _ _ _ _
      have hR : All2 ModeIs mv (rightsOf ns) := modes_are (fun e he => nums_rng he) hmi
      refine wpAny_mono (llog w s₁.heap _ _ mo mv.toArray (rightsOf ns) _ (by simp only [depth_deeper]; decide) (by simp only [units_deeper]; decide) rfl ⟨C.X, C.T, F₁.keep⟩ (PySem.IsL.isList (N₁ _ (.tail _ (.head _))).1) (by simpa using hR) (by unfold rightsOf; rw [List.length_map]; (first | lia | omega))) (fun r s' hs' => ?_) fun _ _ e => e
      obtain ⟨lg, h₂, tk₂, lvs, lcnt, rfl, rfl, st, hlg, hlgn, hA⟩ := hs'
      replace hlgn : h₁.get? lg = none := hlgn
      have hlL : lg ≠ L := fun q => by
        obtain ⟨oL, _, _, hL', _⟩ := F₁.ns
        have hL'' : h₁.get? L = some oL := hL'
        rw [q, hL''] at hlgn; cases hlgn
      have hlgg : s₁.heap.get? lg = none := by
        cases q : s₁.heap.get? lg with
        | none => rfl
        | some o => rw [F₁.keep _ _ q] at hlgn; cases hlgn
      have hlne : ∀ p ∈ (sg, W.listOf svs.toArray scnt) :: (mo, W.listOf mv.toArray mcnt) :: K, p.1 ≠ lg := fun p hp e => by
        have h1 := (N₁ p hp).1
        rw [e, hlgn] at h1; cases h1
      have F₂ := fr_up F₁ st
      have N₂ : News s₁.heap L h₂ ((lg, W.listOf lvs.toArray lcnt) :: (sg, W.listOf svs.toArray scnt) :: (mo, W.listOf mv.toArray mcnt) :: K) := fun p hp => by
        rcases List.mem_cons.mp hp with rfl | hp
        · exact ⟨hlg, hlL, hlgg⟩
        · exact news_up N₁ st p hp
      obtain ⟨tups₂, Nt, hTN, hc₂⟩ := collect hA F₂
      have hBK : ∀ p ∈ Base L ln ls nms shs oN oS o3 o4, p ∈ K := fun p hp => hK ▸ List.mem_append_left _ hp
      have N₃ : News s₁.heap L h₂ ((lg, W.listOf lvs.toArray lcnt) :: (sg, W.listOf svs.toArray scnt) :: (Base L ln ls nms shs oN oS o3 o4 ++ tups₂)) := fun p hp => by
        rcases List.mem_cons.mp hp with rfl | hp
        · exact N₂ _ (.head _)
        · rcases List.mem_cons.mp hp with rfl | hp
          · exact N₂ _ (.tail _ (.head _))
          · rcases List.mem_append.mp hp with hp | hp
            · exact N₂ _ (.tail _ (.tail _ (.tail _ (hBK _ hp))))
            · exact Nt _ hp
      have hlne' : ∀ p ∈ (sg, W.listOf svs.toArray scnt) :: Base L ln ls nms shs oN oS o3 o4, p.1 ≠ lg := fun p hp => by
        rcases List.mem_cons.mp hp with rfl | hp
        · exact hlne _ (.head _)
        · exact hlne _ (.tail _ (.tail _ (hBK _ hp)))
      clear F₁ N₁ st hA hlg hR N₂ Nt hlne
      try dsimp only
      k_steps
      show wpAny _ _ _ _ _ _
      rename Fr _ _ _ _ => F₃
      rename News _ _ _ _ => N₃
      rename_i h₃
      subst hL
      try dsimp only
      refine H w s₁ fa a1 h₃ tk ns C hlen ⟨_, ln, ls, sg, lg, oN, oS, o3, o4, nms, shs, svs, scnt, lvs, lcnt, tups₂, fr_map [("signs", .ref sg), ("log", .ref lg)] (by intro p hp'; simp only [List.mem_cons, List.not_mem_nil, or_false] at hp'; rcases hp' with rfl | rfl <;> rfl) F₃, N₃, hc₂, hTN, hs, hB, d3, d4, hlne'⟩
end Mine
end
section
-- G6
open PySem PySem.W PyProof.Rows PySem.Calls PySem.Spec
namespace Mine
-- lines of the walk
theorem lines_G6_1 : True := by
  k_with_none
  k_with "execs nil" => (k_here; first | k_gentoks | (refine SeqQ.next ?_; k_gentoks) | refine wpAny_execs_nil ?_)
  k_with "execs cons" => (k_here; first | k_gentoks | (refine SeqQ.next ?_; k_gentoks) | refine execs_consS ?_)
  k_with "eval ListComp" => refine Stopped.intro ?_
  k_with "exec Assign cons ListComp" => refine Stopped.intro ?_
  k_with "exec While Compare cons nil" => refine Stopped.intro ?_
  k_with "exec While Name cons nil" => refine Stopped.intro ?_
  k_with "exec For" => refine Stopped.intro ?_
  k_with "exec For Name Name cons nil" => refine Stopped.intro ?_
  k_with "exec For Name Call cons nil" => refine Stopped.intro ?_
  k_with "exec For Name Call cons cons" => refine Stopped.intro ?_
  k_with "exec For Tuple Name cons nil" => refine Stopped.intro ?_
  k_with "exec For Tuple Call cons nil" => refine Stopped.intro ?_
  k_with "exec For Tuple Name cons cons" => refine Stopped.intro ?_
  k_with "pyIter ref" => refine Stopped.intro ?_
  k_with "call ref" => refine Stopped.intro ?_
  k_with "WhileStep2" => refine Stopped.intro ?_
  k_with "ForPost" => refine Stopped.intro ?_
  k_with "CEnd" => refine Stopped.intro ?_
  k_with "call type:range" => (k_here; (with_unfolding_all refine' range1 ?zqk1 ?zqk2 ?_; (case zqk1 => k_asm); (case zqk2 => k_asm); k_whole); intro _ _ _ _ _ _ _ _ _; (try k_sweep); (try dsimp only))
  k_with "storeName" => (k_here; (with_reducible show wpAny _ _ (storeName (compEnvC _ _ _ _) _ _) _ _ _); (with_unfolding_all refine' stE ?zqF ?zqN ?_ ?zqa ?zqb; (case zqF => k_asm); (case zqN => k_asm); (case zqa => rfl); (case zqb => rfl); k_whole); intro _ _ _ _; (try k_sweep); (try dsimp only))
  k_with "storeName" => (k_here; (first
    | (with_unfolding_all refine' st_int ?zqF ?zqN ?_ ?zqa ?zqb; (case zqF => k_asm); (case zqN => k_asm); (case zqa => rfl); (case zqb => rfl); k_whole; intro _ _ _ _ _)
    | (with_unfolding_all refine' st_str ?zqF ?zqN ?_ ?zqa ?zqb; (case zqF => k_asm); (case zqN => k_asm); (case zqa => rfl); (case zqb => rfl); k_whole; intro _ _ _ _ _)
    | (with_unfolding_all refine' st_any ?zqF ?zqN ?_ ?zqa ?zqb; (case zqF => k_asm); (case zqN => k_asm); (case zqa => rfl); (case zqb => rfl); k_whole; intro _ _ _ _)); (try k_sweep); (try dsimp only))
  k_with "eval Name" => (k_here; (with_reducible show wpAny _ _ (eval (Expr.Name _ _) (compEnvC _ _ _ _)) _ _ _); k_dflt (first
    | (refine' nE_L ?zqF ?zqv ?_ ?zqa ?zqb ?zqc; (case zqb => rfl); (case zqa => rfl); (case zqc => decide); (case zqF => k_asm); (case zqv => first | rfl | assumption); k_whole)
    | (refine' nE_CN ?zqN ?zqc ?zqm ?zqd ?_ ?zqa ?zqb ?zqe; (case zqb => rfl); (case zqa => rfl); (case zqe => decide); (case zqN => k_asm); (case zqc => rfl); (case zqm => k_mem); (case zqd => k_asm); k_whole)
    | (refine' nE_C ?zqF ?zqc ?zqm ?_ ?zqa ?zqb ?zqd; (case zqb => rfl); (case zqa => rfl); (case zqd => decide); (case zqF => k_asm); (case zqc => rfl); (case zqm => k_asm); k_whole)
    | (refine' nE_F ?zqF ?zqc ?zqm ?_ ?zqa ?zqb ?zqd ?zqe; (case zqb => rfl); (case zqa => rfl); (case zqd => decide); (case zqe => decide); (case zqF => k_asm); (case zqc => rfl); (case zqm => k_asm); k_whole)
    | (refine' nE_K ?zqF ?zqX ?zqT ?zqe ?_ ?zqa ?zqg ?zqb ?zqd; (case zqb => rfl); (case zqa => rfl); (case zqg => rfl); (case zqd => decide); (case zqF => k_asm); (case zqX => k_asm); (case zqT => k_asm); (case zqe => k_is); k_whole)
    | (refine' nE_B ?zqF ?zqX ?zqT ?zqe ?zqv ?zqn ?_ ?zqa ?zqg ?zqi ?zqb ?zqd; (case zqb => rfl); (case zqa => rfl); (case zqg => rfl); (case zqi => rfl); (case zqd => decide); (case zqF => k_asm); (case zqX => k_asm); (case zqT => k_asm); (case zqe => k_is); (case zqv => boot_fast); (case zqn => decide); k_whole)))
  k_with "binaryOp RShift int int" => (k_here; (with_reducible refine' shrN ?zqa ?_; (case zqa => (first | lia | omega)); k_whole); intro _ _; (try dsimp only))
  k_with "binaryOp RShift int int" => (k_here; (with_reducible refine shr1 ?_); intro _ _; (try dsimp only))
  k_with "binaryOp BitAnd int int" => (k_here; (with_reducible refine and1 ?_); intro _ _; (try dsimp only))
  k_with "call builtin:sum" => refine Stopped.intro ?_
  trivial
theorem lines_G6_2 : True := by
  k_with "subscriptTail" => refine Stopped.intro ?_
  trivial
theorem share_at {shs : List Value} (h : LShares shs) {k : Nat} (hk : k ≤ 5) : ∃ t, shs[k]? = some (.int (shareN k) t) := by
  have hl := IntsAre.length h
  have hlt : k < shs.length := by rw [hl]; exact Nat.lt_succ_of_le hk
  obtain ⟨n, t, e, hn⟩ := IntsAre.at h k _ (List.getElem?_eq_getElem hlt)
  refine ⟨t, ?_⟩
  rw [List.getElem?_eq_getElem hlt, e]
  have : shareN k = n := by unfold shareN; rw [List.getD_eq_getElem?_getD, hn]; rfl
  rw [this]
inductive StE (s₁ : Shared) (ns : List Int) (h : Heap) : Prop
  | mk (m : Str → Option Value) (ln : Addr) (ls : Addr) (sg : Addr) (lg : Addr) (to : Addr) (oN : Obj) (oS : Obj) (o3 : Obj) (o4 : Obj) (nms : List Value) (shs : List Value) (svs : List Value) (scnt : Nat) (lvs : List Value) (lcnt : Nat) (tups : List (Addr × Obj)) :
    (Fr s₁.heap s₁.heap.objs.size h (mapOf [("signs", .ref sg), ("log", .ref lg), ("told", .ref to)] m)) →
    (News s₁.heap s₁.heap.objs.size h ((to, W.listOf #[] 0) :: (lg, W.listOf lvs.toArray lcnt) :: (sg, W.listOf svs.toArray scnt) :: (Base s₁.heap.objs.size ln ls nms shs oN oS o3 o4 ++ tups))) →
    ((∀ p ∈ tups, p.2.cls = .type "tuple")) →
    (All2 (TN (SL (rightsOf ns)) s₁.heap tups) lvs (logN (rightsOf ns) 192)) →
    (StrsAre svs ((nums ns).map fun e => sgn e.2)) →
    (BaseOk ln ls nms shs oN oS) →
    (o3.data = .cell none) →
    (o4.data = .cell none) →
    (∀ p ∈ (lg, W.listOf lvs.toArray lcnt) :: (sg, W.listOf svs.toArray scnt) :: (Base s₁.heap.objs.size ln ls nms shs oN oS o3 o4 ++ tups), p.1 < to) →
    StE s₁ ns h
set_option maxHeartbeats 8000000 in
noncomputable def lawE : { P : World → Shared → Addr → Addr → Heap → Nat → Prop // (∀ w s₁ fa a1 h tk ns, Ctx w s₁.heap s₁.heap → ns.length ≤ 63 → StE s₁ ns h → P w s₁ fa a1 h tk) →
  ∀ w s₁ fa a1 h tk ns, Ctx w s₁.heap s₁.heap → ns.length ≤ 63 → StD s₁ ns h → lawD.1 w s₁ fa a1 h tk } := by
  refine' ⟨_, fun H => ?_⟩
  rotate_left
  · intro w s₁ fa a1 h tk ns C hlen ⟨m, ln, ls, sg, lg, oN, oS, o3, o4, nms, shs, svs, scnt, lvs, lcnt, tups, F, N, hcl, hlv, hs, hB, d3, d4, hlne⟩
    obtain ⟨p, loose, mean, mg, mb, T⟩ := C.T
    have X' := C.X
    have T' := T
    with_unfolding_all show wpAny _ _ _ _ _ _
    generalize hL : s₁.heap.objs.size = L at F N hlne
    have hn5 := (nums_len ns).1
    obtain ⟨hsh, hnm, dN, dS⟩ := id hB
    have hls : (ls, W.listOf shs.toArray 0) ∈ (lg, W.listOf lvs.toArray lcnt) :: (sg, W.listOf svs.toArray scnt) :: (Base L ln ls nms shs oN oS o3 o4 ++ tups) := .tail _ (.tail _ (.head _))
    have hcS : (L + 1 + 1, oS) ∈ (lg, W.listOf lvs.toArray lcnt) :: (sg, W.listOf svs.toArray scnt) :: (Base L ln ls nms shs oN oS o3 o4 ++ tups) := .tail _ (.tail _ (.tail _ (.tail _ (.tail _ (.tail _ (.head _))))))
    have htK : ∀ p ∈ tups, p ∈ (lg, W.listOf lvs.toArray lcnt) :: (sg, W.listOf svs.toArray scnt) :: (Base L ln ls nms shs oN oS o3 o4 ++ tups) := fun p hp => .tail _ (.tail _ (List.mem_append_right _ hp))
    have hlz : lvs.toArray.size = (logN (rightsOf ns) 192).length := by rw [List.size_toArray]; exact hlv.length
    have hl32 := logN_len (rightsOf ns) (Nat.le_refl 192)
    have hr31 : ∀ r ∈ rightsOf ns, 1 ≤ r ∧ r < 32 := fun r hr => by
      obtain ⟨e, he, rfl⟩ := List.mem_map.mp hr
      have := nums_rng he
      (first | lia | omega)
    refine my_Exp (cl := [(Str.ofString "shares", L + 1 + 1)]) (fun _ => true) (fun i y _ => ∃ Y, (logN (rightsOf ns) 192)[i]? = some Y ∧ ∃ t, y = .int (shareN (popN Y) * (popN (Zc (rightsOf ns) Y) : Int)) t) (by subst hL; with_unfolding_all rfl) rfl (by decide) ?_
    k_steps
    show wpAny _ _ _ _ _ _
    refine ready_list (target := .Tuple _ _ _) (items := lvs.toArray) rfl rfl (PySem.IsL.isList (N _ (.head _)).1) fun I St s₂ Rd => ExpNext.intro Rd F N ?_ ?_ ?_
    · rw [sizeLine_eq, hlz]; (first | lia | omega)
    · intro g C' i v h₁ tk₁ m₁ cm₁ cells₁ extra hg1 hg2 hi hP F₁ Y₁ N₁ hex hall
      obtain ⟨Y, hY⟩ : ∃ e, (logN (rightsOf ns) 192)[i]? = some e := ⟨_, List.getElem?_eq_getElem (by rw [← hlz]; exact hi)⟩
      obtain ⟨v', hv', a, arr, n', rfl, ha, t1, t2, rfl⟩ := hlv.get hY
      have hv : lvs.toArray[i]? = some v := hP
      rw [List.getElem?_toArray, hv'] at hv; cases hv
      have hta : g.get? a = some (tupO #[.int (Y : Int) t1, .str (pf (Zc (rightsOf ns) Y : Nat)) t2] n') := by
        refine hg1 _ _ ?_
        rcases ha with ha | ha
        · exact (N _ (htK _ ha)).1
        · exact F.keep _ _ ha
      have hY32 : 1 ≤ Y ∧ Y < 32 := by
        have hm := List.mem_of_getElem? hY
        rw [logN_all fun r hr => (hr31 r hr).1] at hm
        have key : ∀ y ∈ sorted31, 1 ≤ y ∧ y < 32 := by decide
        exact key Y (List.mem_filter.mp hm).1
      have hc32 := Zc_lt (rightsOf ns) Y
      have hcell : g.IsCell (L + 1 + 1) (some (.ref ls)) := ⟨_, hg1 _ _ (N _ hcS).1, dS⟩
      have hgl : g.IsList ls shs.toArray := (PySem.IsL.isList (N _ hls).1).at fun o e => hg1 _ _ e
      have hCtx : ∀ {h : Heap} {m : Str → Option Value}, Fr g C' h m → Ctx w s₁.heap h := fun F' => ⟨C.X, C.T, fun b o e => F'.keep _ _ (hg1 _ _ (F.keep _ _ e))⟩
      have X₂ := X'.keeps (h' := g) fun b o e => hg1 _ _ (F.keep _ _ e)
      have T₂ := T.keeps (h' := g) fun b o e => hg1 _ _ (F.keep _ _ e)
      clear F N X' T T'
      generalize hc : Zc (rightsOf ns) Y = c at hta hc32
      generalize hW : pf (c : Nat) = W at hta
      refine unpackN_ F₁ N₁ (⟨_, F₁.keep _ _ hta, rfl, n', rfl⟩ : h₁.IsTuple a _) rfl rfl rfl fun h₂ F₂ N₂ => ?_
      clear F₁ N₁
      try dsimp only [testsOf]
      k_steps
      show wpAny _ _ _ _ _ _
      rename Fr _ _ _ _ => F₃
      rename News _ _ _ _ => N₃
      refine pure_call (lcount w s₁.heap _ _ (Y : Int) t1 _ (by simp only [depth_deeper]; decide) (by simp only [units_deeper]; decide) rfl (hCtx F₃) (by (first | lia | omega)) (by (first | lia | omega))) F₃ N₃ ?_
      rintro _ h₄ tk₄ ⟨t₄, rfl⟩ F₄ N₄
      clear F₃ N₃
      rw [pop5N]
      try dsimp only
      k_steps
      show wpAny _ _ _ _ _ _
      have hpo := @popN_le Y
      obtain ⟨tx, hx⟩ := share_at hsh hpo
      have hgl₄ : h₄.IsList ls shs.toArray := hgl.at fun o e => F₄.keep _ _ e
      refine tail_any (s := { s₁ with heap := h₄, toks := _ }) hgl₄.typeIs slot_list_getitem.lookup (wpAny_getItem_list hgl₄ (by (first | lia | omega)) (by (first | lia | omega)) (by simpa using hx) ?_) (by with_unfolding_all rfl)
      try dsimp only
      have hWl : W.length ≤ 64 := hW ▸ pf_len hc32
      k_steps
      · rename Fr _ _ _ _ => F₅
        rename News _ _ _ _ => N₅
        rename (_ == _) = true => heq
        rw [← hW] at heq
        exact CEnd.of F₅ Y₁ N₅ ⟨Y, hY, _, by rw [hc, pf_zero hc32 heq]; rfl⟩
      · show wpAny _ _ (binaryOp _ _ _) _ _ _
        rename Fr _ _ _ _ => F₅
        rename News _ _ _ _ => N₅
        rename (_ == _) = false => heq
        rename List (Str × Tok) => l
        rename List.map _ _ = Txt.split _ _ => hlk
        rw [← hW] at heq
        have hll : l.length = popN c := by rw [← pf_split hc32 heq, hW, ← hlk, List.length_map]
        have hp5 := @popN_le c
        refine PyProof.Rows.mul_int (hm := IntMulOk.of_right (intBits_le_64 (by (first | lia | omega)) (by (first | lia | omega)))) ?_
        exact CEnd.of F₅ Y₁ (fun p hp => N₅ p (.tail _ hp)) ⟨Y, hY, _, by rw [hc, hll]⟩
    · intro D h₁ tk₁ cnt₁ zs up hDn' F₁ N₁ hne hM
      have hz : IntsAre zs ((logN (rightsOf ns) 192).map fun Y => shareN (popN Y) * (popN (Zc (rightsOf ns) Y) : Int)) := All2.toInts (All2.of_map (R := fun y e => ∃ t, y = .int e t) (hM.vals hlz))
      clear F N hM
      try dsimp only
      k_steps
      show wpAny _ _ _ _ _ _
      refine sum_my rfl (PySem.IsL.isList (N₁ _ (.head _)).1) hz fun h₂ tk₂ t₂ up₂ => ?_
      rw [shares_sum (by intro e; have := (nums_len ns).2; have e2 : (rightsOf ns).length = (nums ns).length := List.length_map ..; rw [e] at e2; simp at e2; (first | lia | omega)) hr31]
      replace F₁ := fr_up F₁ up₂
      replace N₁ := news_up (news_sub N₁ (fun p hp => List.mem_cons_of_mem _ hp)) up₂
      clear hz hne up up₂ hDn'
      try dsimp only
      k_steps
      show wpAny _ _ _ _ _ _
      rename Fr _ _ _ _ => F₃
      rename News _ _ _ _ => N₃
      rename_i tkx to h₃' l1 h₃
      obtain ⟨q1, q2, q3⟩ := l1
      have hto : ∀ p ∈ (lg, W.listOf lvs.toArray lcnt) :: (sg, W.listOf svs.toArray scnt) :: (Base L ln ls nms shs oN oS o3 o4 ++ tups), p.1 < to := fun p hp => by
        rcases List.mem_cons.mp hp with rfl | hp
        · exact q1
        · rcases List.mem_cons.mp hp with rfl | hp
          · exact q2
          · exact kst_ltOf q3 p hp
      subst hL
      try dsimp only
      refine H w s₁ fa a1 h₃ tk ns C hlen ⟨_, ln, ls, sg, lg, to, oN, oS, o3, o4, nms, shs, svs, scnt, lvs, lcnt, tups, fr_map [("signs", .ref sg), ("log", .ref lg), ("told", .ref to)] (by intro p hp'; simp only [List.mem_cons, List.not_mem_nil, or_false] at hp'; rcases hp' with rfl | rfl | rfl <;> rfl) F₃, N₃, hcl, hlv, hs, hB, d3, d4, hto⟩
end Mine
end
section
-- G7
open PySem PySem.W PyProof.Rows PySem.Calls PySem.Spec
namespace Mine
-- lines of the walk
theorem lines_G7_1 : True := by
  k_with_none
  k_with "execs nil" => (k_here; first | k_gentoks | (refine SeqQ.next ?_; k_gentoks) | refine wpAny_execs_nil ?_)
  k_with "execs cons" => (k_here; first | k_gentoks | (refine SeqQ.next ?_; k_gentoks) | refine execs_consS ?_)
  k_with "eval ListComp" => refine Stopped.intro ?_
  k_with "exec Assign cons ListComp" => refine Stopped.intro ?_
  k_with "exec While Compare cons nil" => refine Stopped.intro ?_
  k_with "exec While Name cons nil" => refine Stopped.intro ?_
  k_with "exec For" => refine Stopped.intro ?_
  k_with "exec For Name Name cons nil" => refine Stopped.intro ?_
  k_with "exec For Name Call cons nil" => refine Stopped.intro ?_
  k_with "exec For Name Call cons cons" => refine Stopped.intro ?_
  k_with "exec For Tuple Name cons nil" => refine Stopped.intro ?_
  k_with "exec For Tuple Call cons nil" => refine Stopped.intro ?_
  k_with "exec For Tuple Name cons cons" => refine Stopped.intro ?_
  k_with "pyIter ref" => refine Stopped.intro ?_
  k_with "call ref" => refine Stopped.intro ?_
  k_with "WhileStep2" => refine Stopped.intro ?_
  k_with "ForPost" => refine Stopped.intro ?_
  k_with "CEnd" => refine Stopped.intro ?_
  k_with "call type:range" => (k_here; (with_unfolding_all refine' range1 ?zqk1 ?zqk2 ?_; (case zqk1 => k_asm); (case zqk2 => k_asm); k_whole); intro _ _ _ _ _ _ _ _ _; (try k_sweep); (try dsimp only))
  k_with "storeName" => (k_here; (with_reducible show wpAny _ _ (storeName (compEnvC _ _ _ _) _ _) _ _ _); (with_unfolding_all refine' stE ?zqF ?zqN ?_ ?zqa ?zqb; (case zqF => k_asm); (case zqN => k_asm); (case zqa => rfl); (case zqb => rfl); k_whole); intro _ _ _ _; (try k_sweep); (try dsimp only))
  k_with "storeName" => (k_here; (first
    | (with_unfolding_all refine' st_int ?zqF ?zqN ?_ ?zqa ?zqb; (case zqF => k_asm); (case zqN => k_asm); (case zqa => rfl); (case zqb => rfl); k_whole; intro _ _ _ _ _)
    | (with_unfolding_all refine' st_str ?zqF ?zqN ?_ ?zqa ?zqb; (case zqF => k_asm); (case zqN => k_asm); (case zqa => rfl); (case zqb => rfl); k_whole; intro _ _ _ _ _)
    | (with_unfolding_all refine' st_any ?zqF ?zqN ?_ ?zqa ?zqb; (case zqF => k_asm); (case zqN => k_asm); (case zqa => rfl); (case zqb => rfl); k_whole; intro _ _ _ _)); (try k_sweep); (try dsimp only))
  k_with "eval Name" => (k_here; (with_reducible show wpAny _ _ (eval (Expr.Name _ _) (compEnvC _ _ _ _)) _ _ _); k_dflt (first
    | (refine' nE_L ?zqF ?zqv ?_ ?zqa ?zqb ?zqc; (case zqb => rfl); (case zqa => rfl); (case zqc => decide); (case zqF => k_asm); (case zqv => first | rfl | assumption); k_whole)
    | (refine' nE_CN ?zqN ?zqc ?zqm ?zqd ?_ ?zqa ?zqb ?zqe; (case zqb => rfl); (case zqa => rfl); (case zqe => decide); (case zqN => k_asm); (case zqc => rfl); (case zqm => k_mem); (case zqd => k_asm); k_whole)
    | (refine' nE_C ?zqF ?zqc ?zqm ?_ ?zqa ?zqb ?zqd; (case zqb => rfl); (case zqa => rfl); (case zqd => decide); (case zqF => k_asm); (case zqc => rfl); (case zqm => k_asm); k_whole)
    | (refine' nE_F ?zqF ?zqc ?zqm ?_ ?zqa ?zqb ?zqd ?zqe; (case zqb => rfl); (case zqa => rfl); (case zqd => decide); (case zqe => decide); (case zqF => k_asm); (case zqc => rfl); (case zqm => k_asm); k_whole)
    | (refine' nE_K ?zqF ?zqX ?zqT ?zqe ?_ ?zqa ?zqg ?zqb ?zqd; (case zqb => rfl); (case zqa => rfl); (case zqg => rfl); (case zqd => decide); (case zqF => k_asm); (case zqX => k_asm); (case zqT => k_asm); (case zqe => k_is); k_whole)
    | (refine' nE_B ?zqF ?zqX ?zqT ?zqe ?zqv ?zqn ?_ ?zqa ?zqg ?zqi ?zqb ?zqd; (case zqb => rfl); (case zqa => rfl); (case zqg => rfl); (case zqi => rfl); (case zqd => decide); (case zqF => k_asm); (case zqX => k_asm); (case zqT => k_asm); (case zqe => k_is); (case zqv => boot_fast); (case zqn => decide); k_whole)))
  k_with "binaryOp RShift int int" => (k_here; (with_reducible refine' shrN ?zqa ?_; (case zqa => (first | lia | omega)); k_whole); intro _ _; (try dsimp only))
  k_with "binaryOp RShift int int" => (k_here; (with_reducible refine shr1 ?_); intro _ _; (try dsimp only))
  k_with "binaryOp BitAnd int int" => (k_here; (with_reducible refine and1 ?_); intro _ _; (try dsimp only))
  k_with "call builtin:sum" => refine Stopped.intro ?_
  trivial
theorem range2 {prog : Program} {w : World} {A : Around} {E : Value → Shared → Prop} {s : Shared} {g : Heap} {L : Addr} {m : Str → Option Value} {news : List (Addr × Obj)} {a b : Int} {t u : Tok} {Q : Value → Shared → Prop} (F : Fr g L s.heap m) (N : News g L s.heap news)
    (h : ∀ R h' tk t₁ u₁ v₁, IsRange h' R a b 1 t₁ u₁ v₁ → Fr g L h' m → News g L h' news → Q (.ref R) { s with heap := h', toks := tk }) : wpAny (model prog w) A (call (.type "range") [.int a t, .int b u]) Q E s :=
  call_range_2 (h _ _ _ _ _ _ (IsRange.new ..) (F.push _) (news_up N fun _ _ => Heap.get?_push_of_some _))
theorem lines_G7_2 : True := by
  k_with "call type:range" => (k_here; (with_unfolding_all refine' range2 ?zqk1 ?zqk2 ?_; (case zqk1 => k_asm); (case zqk2 => k_asm); k_whole); intro _ _ _ _ _ _ _ _ _; (try k_sweep); (try dsimp only))
  k_with "call builtin:sorted" => refine Stopped.intro ?_
  trivial
inductive StF (s₁ : Shared) (ns : List Int) (so : Addr) (h : Heap) : Prop
  | mk (m : Str → Option Value) (ln : Addr) (ls : Addr) (sg : Addr) (lg : Addr) (to : Addr) (oN : Obj) (oS : Obj) (o3 : Obj) (o4 : Obj) (nms : List Value) (shs : List Value) (svs : List Value) (scnt : Nat) (lvs : List Value) (lcnt : Nat) (out : List Value) (ocnt : Nat) (tups : List (Addr × Obj)) :
    (Fr s₁.heap s₁.heap.objs.size h (mapOf [("signs", .ref sg), ("log", .ref lg), ("told", .ref to)] m)) →
    (News s₁.heap s₁.heap.objs.size h ((so, W.listOf (List.toArray out) ocnt) :: (to, W.listOf #[] 0) :: (lg, W.listOf (List.toArray lvs) lcnt) :: (sg, W.listOf (List.toArray svs) scnt) :: (Base s₁.heap.objs.size ln ls nms shs oN oS o3 o4 ++ tups))) →
    ((∀ p ∈ tups, p.2.cls = .type "tuple")) →
    (All2 (TN (SL (rightsOf ns)) s₁.heap tups) lvs (logN (rightsOf ns) 192)) →
    (All2 (TN S2 s₁.heap tups) out s31) →
    (StrsAre svs ((nums ns).map fun e => sgn e.2)) →
    (BaseOk ln ls nms shs oN oS) →
    (o3.data = .cell none) →
    (o4.data = .cell none) →
    ((∀ p ∈ (lg, W.listOf (List.toArray lvs) lcnt) :: (sg, W.listOf (List.toArray svs) scnt) :: Base s₁.heap.objs.size ln ls nms shs oN oS o3 o4, p.1 < to)) →
    (∀ p ∈ (to, W.listOf #[] 0) :: (lg, W.listOf (List.toArray lvs) lcnt) :: (sg, W.listOf (List.toArray svs) scnt) :: (Base s₁.heap.objs.size ln ls nms shs oN oS o3 o4 ++ tups), p.1 < so) →
    StF s₁ ns so h
theorem l31_get {i : Nat} (hi : i < 31) : l31[i]? = some ((popN (i + 1) : Int), ((i + 1 : Nat) : Int)) := by
  unfold l31; rw [List.getElem?_map, List.getElem?_range hi]; rfl
set_option maxHeartbeats 8000000 in
noncomputable def lawF : { P : World → Shared → Addr → Addr → Addr → Heap → Nat → Prop // (∀ w s₁ fa a1 so h tk ns, Ctx w s₁.heap s₁.heap → ns.length ≤ 63 → StF s₁ ns so h → P w s₁ fa a1 so h tk) →
  ∀ w s₁ fa a1 h tk ns, Ctx w s₁.heap s₁.heap → ns.length ≤ 63 → StE s₁ ns h → lawE.1 w s₁ fa a1 h tk } := by
  refine' ⟨_, fun H => ?_⟩
  rotate_left
  · intro w s₁ fa a1 h tk ns C hlen ⟨m, ln, ls, sg, lg, to, oN, oS, o3, o4, nms, shs, svs, scnt, lvs, lcnt, tups, F, N, hcl, hlv, hs, hB, d3, d4, hto⟩
    obtain ⟨p, loose, mean, mg, mb, T⟩ := C.T
    have X' := C.X
    have T' := T
    with_unfolding_all show wpAny _ _ _ _ _ _
    generalize hL : s₁.heap.objs.size = L at F N hto
    refine wpAny_For ?_
    k_steps
    show wpAny _ _ _ _ _ _
    refine my_Exp (cl := []) (fun _ => true) (fun i y objs => ∃ a arr e, y = .ref a ∧ objs = [(a, tupO arr 0)] ∧ l31[i]? = some e ∧ S2 e arr) (by with_unfolding_all rfl) rfl (by decide) ?_
    k_steps
    show wpAny _ _ _ _ _ _
    rename Fr _ _ _ _ => F₁
    rename News _ _ _ _ => N₁
    rename IsRange _ _ _ _ _ _ _ _ => hR₁
    refine ready_range31 (target := .Name _ _) rfl rfl hR₁ fun I St s₂ Rd => ExpNext.intro Rd F₁ N₁ ?_ ?_ ?_
    · rw [sizeLine_eq]; (first | lia | omega)
    · intro g C' i v h₁ tk₁ m₁ cm₁ cells₁ extra hg1 hg2 hi hP F₂ Y₂ N₂ hex hall
      obtain ⟨tv, rfl⟩ := hP
      have hCtx : ∀ {h : Heap} {m : Str → Option Value}, Fr g C' h m → Ctx w s₁.heap h := fun F' => ⟨C.X, C.T, fun b o e => F'.keep _ _ (hg1 _ _ (F₁.keep _ _ e))⟩
      have X₂ := X'.keeps (h' := g) fun b o e => hg1 _ _ (F₁.keep _ _ e)
      have T₂ := T.keeps (h' := g) fun b o e => hg1 _ _ (F₁.keep _ _ e)
      clear F₁ N₁ X' T T'
      try dsimp only [testsOf]
      rw [show (1 : Int) + (i : Int) = ((i + 1 : Nat) : Int) by (first | lia | omega)]
      k_steps
      show wpAny _ _ _ _ _ _
      rename Fr _ _ _ _ => F₃
      rename News _ _ _ _ => N₃
      refine pure_call (lcount w s₁.heap _ _ ((i + 1 : Nat) : Int) _ _ (by simp only [depth_deeper]; decide) (by simp only [units_deeper]; decide) rfl (hCtx F₃) (by (first | lia | omega)) (by (first | lia | omega))) F₃ N₃ ?_
      rintro _ h₄ tk₄ ⟨t₄, rfl⟩ F₄ N₄
      clear F₃ N₃
      rw [pop5N]
      try dsimp only
      k_steps
      rename Fr _ _ _ _ => F₅
      rename News _ _ _ _ => N₅
      rename_i hlt
      exact CEnd.one F₅ Y₂ N₅ ⟨_, _, _, rfl, rfl, l31_get hi, _, _, rfl⟩ hall hlt
    · intro D h₁ tk₁ cnt₁ zs up hDn' F₂ N₂ hne hM
      obtain ⟨tups₂, Nt, hTN, hc₂⟩ := collect (hM.tups (by decide)) F₂
      have hc₃ : ∀ p ∈ tups ++ tups₂, p.2.cls = .type "tuple" := fun p hp => (List.mem_append.mp hp).elim (hcl p) (hc₂ p)
      have N₃ : News s₁.heap L h₁ ((D, W.listOf zs.toArray cnt₁) :: (to, W.listOf #[] 0) :: (lg, W.listOf lvs.toArray lcnt) :: (sg, W.listOf svs.toArray scnt) :: (Base L ln ls nms shs oN oS o3 o4 ++ (tups ++ tups₂))) := fun p hp => by
        rw [← List.append_assoc] at hp
        have hp' : p ∈ ((D, W.listOf zs.toArray cnt₁) :: (to, W.listOf #[] 0) :: (lg, W.listOf lvs.toArray lcnt) :: (sg, W.listOf svs.toArray scnt) :: (Base L ln ls nms shs oN oS o3 o4 ++ tups)) ++ tups₂ := by simpa using hp
        exact (List.mem_append.mp hp').elim (N₂ p) (Nt p)
      have hTN' : All2 (TN S2 s₁.heap (tups ++ tups₂)) zs l31 := hTN.mono fun _ _ x => x.mono fun p hp => List.mem_append_right _ hp
      have hlv' : All2 (TN (SL (rightsOf ns)) s₁.heap (tups ++ tups₂)) lvs (logN (rightsOf ns) 192) := hlv.mono fun _ _ x => x.mono fun p hp => List.mem_append_left _ hp
      have hto' : ∀ p ∈ (lg, W.listOf lvs.toArray lcnt) :: (sg, W.listOf svs.toArray scnt) :: Base L ln ls nms shs oN oS o3 o4, p.1 < to := fun p hp => hto p (by
        rw [show (lg, W.listOf lvs.toArray lcnt) :: (sg, W.listOf svs.toArray scnt) :: (Base L ln ls nms shs oN oS o3 o4 ++ tups) = ((lg, W.listOf lvs.toArray lcnt) :: (sg, W.listOf svs.toArray scnt) :: Base L ln ls nms shs oN oS o3 o4) ++ tups from rfl]
        exact List.mem_append_left _ hp)
      clear F₁ N₁ hM N₂ Nt hTN hlv hto
      generalize tups ++ tups₂ = tups₃ at N₃ hc₃ hTN' hlv'
      try dsimp only
      k_steps
      show wpAny _ _ _ _ _ _
      rename Fr _ _ _ _ => F₃
      refine my_sorted F₃ N₃ (PySem.IsL.isList (N₃ _ (.head _)).1) hTN' (fun p hp => .tail _ (.tail _ (.tail _ (.tail _ (List.mem_append_right _ hp))))) fun so h₄ ocnt out F₄ N₄ hlt hout => ?_
      subst hL
      try dsimp only
      refine H w s₁ fa a1 so h₄ tk₁ ns C hlen ⟨_, ln, ls, sg, lg, to, oN, oS, o3, o4, nms, shs, svs, scnt, lvs, lcnt, out, ocnt, tups₃, fr_map [("signs", .ref sg), ("log", .ref lg), ("told", .ref to)] (by intro p hp'; simp only [List.mem_cons, List.not_mem_nil, or_false] at hp'; rcases hp' with rfl | rfl | rfl <;> rfl) F₄, ?_, hc₃, hlv', hout, hs, hB, d3, d4, hto', ?_⟩
      · intro p hp
        rcases List.mem_cons.mp hp with rfl | hp
        · exact N₄ _ (.head _)
        · exact N₄ p (.tail _ (.tail _ hp))
      · exact fun p hp => hlt p (.tail _ hp)
end Mine
end
section
-- M8
open PySem PySem.W PyProof.Rows PySem.Calls PySem.Spec
namespace Mine
structure Mark : Prop where
theorem Made.filt {γ : Type} {R : Value → γ → Prop} {g h : Heap} {L D : Addr} {s₁ : Shared} {ys : List Value} {l : List γ} {q : γ → Bool} {n : Nat} (hn : n = l.length)
    (M : Made g h L D s₁ (fun i y _ => ∃ e, l[i]? = some e ∧ R y e) ys ((List.range n).filter fun i => (l[i]?).any q)) : All2 R ys (l.filter q) := by
  subst hn
  refine All2.of_some ?_
  have e : (l.filter q).map some = ((List.range l.length).filter fun i => (l[i]?).any q).map (l[·]?) := by
    have e1 := List.filter_map (f := (l[·]?)) (p := fun o : Option γ => o.any q) (l := List.range l.length)
    have e2 := List.filter_map (f := (some : γ → Option γ)) (p := fun o : Option γ => o.any q) (l := l)
    rw [range_get, e2] at e1
    exact e1
  rw [e]
  exact All2.of_map (M.mono fun y j ⟨_, h, _⟩ => h)
theorem sgn_ok {r : Int} (h0 : 0 ≤ r) (h1 : r < 32) : PyData.strOk (sgn r) = true := by
  have key : ∀ n : _root_.Fin 32, PyData.strOk (sgn (n.val : Int)) = true := by decide +kernel
  obtain ⟨n, rfl⟩ := Int.eq_ofNat_of_zero_le h0
  exact key ⟨n, by (first | lia | omega)⟩
theorem eqv_nil : ∀ ss : List Str, PyData.eqv (.list (ss.map PyData.str)) (.list []) = ss.isEmpty
  | [] => by simp [PyData.eqv, PyData.eqvAll]
  | _ :: _ => by simp [PyData.eqv, PyData.eqvAll]
section
variable {prog : Program} {w : World} {A : Around} {E : Value → Shared → Prop} {s : Shared} {a b : Addr} {xs : List Value} {Q : Value → Shared → Prop}
theorem eq_strs_nil {ss : List Str} (ha : s.heap.IsList a xs.toArray) (hb : s.heap.IsList b #[]) (hi : StrsAre xs ss) (hk : ∀ x ∈ ss, PyData.strOk x = true) (hu : A.units + 64 < cLine) (h : Q (.bool ss.isEmpty) s) :
    wpAny (model prog w) A (compareOp .Eq (.ref a) (.ref b)) Q E s := by
  obtain ⟨ob, eb, cb, nb, db⟩ := hb
  exact eq_dataH (reads_newData ha (strs_carried hi)) (.list eb cb db .nil) (strs_shaped _ hk) rfl hu (by rw [eqv_nil]; exact h)
theorem ne_strs_nil {ss : List Str} (ha : s.heap.IsList a xs.toArray) (hb : s.heap.IsList b #[]) (hi : StrsAre xs ss) (hk : ∀ x ∈ ss, PyData.strOk x = true) (hu : A.units + 64 < cLine) (h : Q (.bool (!ss.isEmpty)) s) :
    wpAny (model prog w) A (compareOp .NotEq (.ref a) (.ref b)) Q E s := by
  obtain ⟨ob, eb, cb, nb, db⟩ := hb
  exact ne_dataH (reads_newData ha (strs_carried hi)) (.list eb cb db .nil) (strs_shaped _ hk) rfl hu (by rw [eqv_nil]; exact h)
end
end Mine
end
section
-- M9
open PySem PySem.W PyProof.Rows PySem.Calls PySem.Spec
namespace Mine
structure Mark2 : Prop where
noncomputable def heldOf (ns : List Int) (Y : Nat) : List Str := ((nums ns).filter fun e => sub e.2.toNat Y).map fun e => sgn e.2
theorem HL_empty (ns : List Int) (Y : Nat) : (heldOf ns Y).isEmpty = !inU (rightsOf ns) Y := by
  unfold heldOf inU rightsOf
  rw [List.any_map]
  generalize nums ns = l
  induction l with
  | nil => rfl
  | cons e l ih =>
    rw [List.filter_cons, List.any_cons]
    cases q : sub e.2.toNat Y with
    | true => simp [q]
    | false => simp only [Bool.false_eq_true, if_false, ih]; simp [Function.comp, q]
theorem common_ks {ns : List Int} {Y k : Nat} (hk : k < 5) : ((heldOf ns Y).filter fun s => Txt.item s (k : Int) == Str.ofString "-").isEmpty = (Zc (rightsOf ns) Y).testBit k := by
  rw [Bool.eq_iff_iff, List.isEmpty_iff, List.filter_eq_nil_iff, Zc_bit hk]
  constructor
  · intro h r hr hs
    obtain ⟨e, he, rfl⟩ := List.mem_map.mp hr
    have rg := nums_rng he
    have := h (sgn e.2) (List.mem_map.mpr ⟨e, List.mem_filter.mpr ⟨he, hs⟩, rfl⟩)
    rw [dash_is (by (first | lia | omega)) rg.2.2.2 hk] at this
    simpa using this
  · intro h s hs
    obtain ⟨e, he, rfl⟩ := List.mem_map.mp hs
    have he' := List.mem_filter.mp he
    have rg := nums_rng he'.1
    rw [dash_is (by (first | lia | omega)) rg.2.2.2 hk]
    have := h e.2.toNat (List.mem_map.mpr ⟨e, he'.1, rfl⟩) he'.2
    simp [this]
theorem ks_is (ns : List Int) (Y : Nat) : ((List.range 5).filter fun k : Nat => ((heldOf ns Y).filter fun s => Txt.item s (k : Int) == Str.ofString "-").isEmpty) = (List.range 5).filter fun k => (Zc (rightsOf ns) Y).testBit k :=
  List.filter_congr fun k hk => common_ks (List.mem_range.mp hk)
theorem name_at {nms : List Value} (h : LNames nms) {k : Nat} (hk : k < 5) : ∃ t, nms[k]? = some (Value.str (rname k) t) := by
  refine StrsAre.at h (j := k) (y := rname k) ?_
  have : k = 0 ∨ k = 1 ∨ k = 2 ∨ k = 3 ∨ k = 4 := by (first | lia | omega)
  rcases this with rfl | rfl | rfl | rfl | rfl <;> rfl
theorem take_in {R : List Nat} {i Y : Nat} (hY : sorted31[i]? = some Y) (h : inU R Y = true) : (sorted31.take (i + 1)).filter (inU R) = (sorted31.take i).filter (inU R) ++ [Y] := by
  rw [List.take_succ, hY, List.filter_append]
  simp [h]
theorem take_out {R : List Nat} {i Y : Nat} (hY : sorted31[i]? = some Y) (h : inU R Y = false) : (sorted31.take (i + 1)).filter (inU R) = (sorted31.take i).filter (inU R) := by
  rw [List.take_succ, hY, List.filter_append]
  simp [h]
end Mine
end
section
-- G8
open PySem PySem.W PyProof.Rows PySem.Calls PySem.Spec
namespace Mine
-- lines of the walk
theorem lines_G8_1 : True := by
  k_with_none
  k_with "execs nil" => (k_here; first | k_gentoks | (refine SeqQ.next ?_; k_gentoks) | refine wpAny_execs_nil ?_)
  k_with "execs cons" => (k_here; first | k_gentoks | (refine SeqQ.next ?_; k_gentoks) | refine execs_consS ?_)
  k_with "eval ListComp" => refine Stopped.intro ?_
  k_with "exec Assign cons ListComp" => refine Stopped.intro ?_
  k_with "exec While Compare cons nil" => refine Stopped.intro ?_
  k_with "exec While Name cons nil" => refine Stopped.intro ?_
  k_with "exec For" => refine Stopped.intro ?_
  k_with "exec For Name Name cons nil" => refine Stopped.intro ?_
  k_with "exec For Name Call cons nil" => refine Stopped.intro ?_
  k_with "exec For Name Call cons cons" => refine Stopped.intro ?_
  k_with "exec For Tuple Name cons nil" => refine Stopped.intro ?_
  k_with "exec For Tuple Call cons nil" => refine Stopped.intro ?_
  k_with "exec For Tuple Name cons cons" => refine Stopped.intro ?_
  k_with "pyIter ref" => refine Stopped.intro ?_
  k_with "call ref" => refine Stopped.intro ?_
  k_with "WhileStep2" => refine Stopped.intro ?_
  k_with "ForPost" => refine Stopped.intro ?_
  k_with "CEnd" => refine Stopped.intro ?_
  k_with "call type:range" => (k_here; (with_unfolding_all refine' range1 ?zqk1 ?zqk2 ?_; (case zqk1 => k_asm); (case zqk2 => k_asm); k_whole); intro _ _ _ _ _ _ _ _ _; (try k_sweep); (try dsimp only))
  k_with "storeName" => (k_here; (with_reducible show wpAny _ _ (storeName (compEnvC _ _ _ _) _ _) _ _ _); (with_unfolding_all refine' stE ?zqF ?zqN ?_ ?zqa ?zqb; (case zqF => k_asm); (case zqN => k_asm); (case zqa => rfl); (case zqb => rfl); k_whole); intro _ _ _ _; (try k_sweep); (try dsimp only))
  k_with "storeName" => (k_here; (first
    | (with_unfolding_all refine' st_int ?zqF ?zqN ?_ ?zqa ?zqb; (case zqF => k_asm); (case zqN => k_asm); (case zqa => rfl); (case zqb => rfl); k_whole; intro _ _ _ _ _)
    | (with_unfolding_all refine' st_str ?zqF ?zqN ?_ ?zqa ?zqb; (case zqF => k_asm); (case zqN => k_asm); (case zqa => rfl); (case zqb => rfl); k_whole; intro _ _ _ _ _)
    | (with_unfolding_all refine' st_any ?zqF ?zqN ?_ ?zqa ?zqb; (case zqF => k_asm); (case zqN => k_asm); (case zqa => rfl); (case zqb => rfl); k_whole; intro _ _ _ _)); (try k_sweep); (try dsimp only))
  k_with "eval Name" => (k_here; (with_reducible show wpAny _ _ (eval (Expr.Name _ _) (compEnvC _ _ _ _)) _ _ _); k_dflt (first
    | (refine' nE_L ?zqF ?zqv ?_ ?zqa ?zqb ?zqc; (case zqb => rfl); (case zqa => rfl); (case zqc => decide); (case zqF => k_asm); (case zqv => first | rfl | assumption); k_whole)
    | (refine' nE_CN ?zqN ?zqc ?zqm ?zqd ?_ ?zqa ?zqb ?zqe; (case zqb => rfl); (case zqa => rfl); (case zqe => decide); (case zqN => k_asm); (case zqc => rfl); (case zqm => k_mem); (case zqd => k_asm); k_whole)
    | (refine' nE_C ?zqF ?zqc ?zqm ?_ ?zqa ?zqb ?zqd; (case zqb => rfl); (case zqa => rfl); (case zqd => decide); (case zqF => k_asm); (case zqc => rfl); (case zqm => k_asm); k_whole)
    | (refine' nE_F ?zqF ?zqc ?zqm ?_ ?zqa ?zqb ?zqd ?zqe; (case zqb => rfl); (case zqa => rfl); (case zqd => decide); (case zqe => decide); (case zqF => k_asm); (case zqc => rfl); (case zqm => k_asm); k_whole)
    | (refine' nE_K ?zqF ?zqX ?zqT ?zqe ?_ ?zqa ?zqg ?zqb ?zqd; (case zqb => rfl); (case zqa => rfl); (case zqg => rfl); (case zqd => decide); (case zqF => k_asm); (case zqX => k_asm); (case zqT => k_asm); (case zqe => k_is); k_whole)
    | (refine' nE_B ?zqF ?zqX ?zqT ?zqe ?zqv ?zqn ?_ ?zqa ?zqg ?zqi ?zqb ?zqd; (case zqb => rfl); (case zqa => rfl); (case zqg => rfl); (case zqi => rfl); (case zqd => decide); (case zqF => k_asm); (case zqX => k_asm); (case zqT => k_asm); (case zqe => k_is); (case zqv => boot_fast); (case zqn => decide); k_whole)))
  k_with "binaryOp RShift int int" => (k_here; (with_reducible refine' shrN ?zqa ?_; (case zqa => (first | lia | omega)); k_whole); intro _ _; (try dsimp only))
  k_with "binaryOp RShift int int" => (k_here; (with_reducible refine shr1 ?_); intro _ _; (try dsimp only))
  k_with "binaryOp BitAnd int int" => (k_here; (with_reducible refine and1 ?_); intro _ _; (try dsimp only))
  k_with "call builtin:sum" => refine Stopped.intro ?_
  trivial
theorem lines_G8_2 : True := by
  k_with "call builtin:list.append" => (k_here; (with_unfolding_all refine' tap ?zqk1 ?zqk2 ?zqkU ?zqk5 ?_; (case zqk1 => k_asm); (case zqk2 => k_asm); (case zqkU => k_upd); (case zqk5 => first | (first | lia | omega) | decide); k_whole); intro _ _ _; (try k_sweep))
  k_with "subscriptTail" => ((with_reducible rename Mark2 => zqMark2); refine Stopped.intro ?_)
  k_with "compareOp Eq ref ref" => ((with_reducible rename Mark => zqMark); refine Stopped.intro ?_)
  k_with "compareOp NotEq ref ref" => ((with_reducible rename Mark => zqMark); refine Stopped.intro ?_)
  k_with "storeName" => (k_here; (with_reducible show wpAny _ _ (storeName (compEnvC _ _ _ _) _ _) _ _ _); k_dflt (refine' st_cellE ?zqF ?zqN ?zqc ?zqU ?zqd ?_ ?zqa ?zqb; (case zqa => rfl); (case zqb => rfl); (case zqF => k_asm); (case zqN => k_asm); (case zqc => rfl); (case zqU => k_updF); (case zqd => k_asm); k_whole); intro _ _ _ zqN; (try dsimp only at zqN); revert zqN; intro _ _; (try k_sweep))
  trivial
noncomputable def isSeq (o : Obj) : Bool := match o.data with | .seq _ _ => true | _ => false
theorem TN.filt {α : Type} {S : α → Array Value → Prop} {g : Heap} {tups : List (Addr × Obj)} {v : Value} {k : α} (x : TN S g tups v k) : TN S g (tups.filter fun p => isSeq p.2) v k := by
  obtain ⟨a, arr, n, rfl, h, hS⟩ := x
  refine ⟨a, arr, n, rfl, ?_, hS⟩
  rcases h with h | h
  · exact .inl (List.mem_filter.mpr ⟨h, rfl⟩)
  · exact .inr h
theorem cell_ne {g h : Heap} {L : Addr} {news : List (Addr × Obj)} (N : News g L h news) {c : Addr} {o : Obj} {v : Option Value} (hc : (c, o) ∈ news) (hd : o.data = .cell v) {p : Addr × Obj} (hp : p ∈ news) (hs : isSeq p.2 = true) : p.1 ≠ c := fun e => by
  have h1 := (N p hp).1
  rw [e, (N _ hc).1] at h1
  have h2 : o = p.2 := Option.some.inj h1
  rw [← h2] at hs
  unfold isSeq at hs
  rw [hd] at hs
  cases hs
inductive J5 (g : Heap) (L ln ls sg lg to : Addr) (nms shs svs lvs : List Value) (scnt lcnt : Nat) (oN oS : Obj) (tups : List (Addr × Obj)) (R : List Nat) (i : Nat) (m : Str → Option Value) (news : List (Addr × Obj)) : Prop
  | mk (tvs : List Value) (c : Nat) (o3 o4 : Obj) (v3 v4 : Option Value) (tups' : List (Addr × Obj)) :
    (news = (to, W.listOf tvs.toArray c) :: (lg, W.listOf lvs.toArray lcnt) :: (sg, W.listOf svs.toArray scnt) :: (Base L ln ls nms shs oN oS o3 o4 ++ tups')) →
    ((∀ p ∈ tups', p.2.cls = .type "tuple" ∧ isSeq p.2 = true)) →
    ((∀ p ∈ tups, p ∈ tups')) →
    (All2 (TN (SL R) g tups') tvs ((sorted31.take i).filter (inU R))) →
    (o3.data = .cell v3) →
    (o4.data = .cell v4) →
    (m "signs" = some (.ref sg)) →
    (m "log" = some (.ref lg)) →
    (m "told" = some (.ref to)) →
    J5 g L ln ls sg lg to nms shs svs lvs scnt lcnt oN oS tups R i m news
theorem fin5 {g h : Heap} {L ln ls sg lg to so I Dt Dw De Dc Dh : Addr} {nms shs svs lvs tvs : List Value} {scnt lcnt c i Y : Nat} {oN oS o3 o4 ow oe oc oh : Obj} {v3 v4 : Option Value} {tups tups' extra : List (Addr × Obj)} {R : List Nat} {m' : Str → Option Value} {s : Shared} {tk : Nat} {t2 tW : Tok} {WW : Str} {Q : Flow → Shared → Prop}
    (F : Fr g L h m') (N : News g L h ((Dt, tupO #[.int (Y : Int) t2, .str WW tW] 0) :: (Dw, ow) :: (De, oe) :: (Dc, oc) :: (Dh, oh) :: (to, W.listOf (tvs ++ [Value.ref Dt]).toArray (c + 1)) :: (lg, W.listOf lvs.toArray lcnt) :: (sg, W.listOf svs.toArray scnt) :: (ls, W.listOf shs.toArray 0) :: (ln, W.listOf nms.toArray 0) ::
      (L + 1 + 1 + 1 + 1, o4) :: (L + 1 + 1 + 1, o3) :: (L + 1 + 1, oS) :: (L + 1, oN) :: (tups' ++ extra)))
    (hW : WW = pf (Zc R Y : Nat)) (hcl' : ∀ p ∈ tups', p.2.cls = .type "tuple" ∧ isSeq p.2 = true) (hsub : ∀ p ∈ tups, p ∈ tups') (htv : All2 (TN (SL R) g tups') tvs ((sorted31.take i).filter (inU R))) (d3 : o3.data = .cell v3) (d4 : o4.data = .cell v4)
    (hY : sorted31[i]? = some Y) (hin : inU R Y = true) (hIa : ∀ a ∈ [to, lg, sg, ls, ln, L + 1 + 1 + 1 + 1, L + 1 + 1 + 1, L + 1 + 1, L + 1], a ∉ [I, so]) (hIt : ∀ p ∈ tups', p.1 ∉ [I, so])
    (hcls : ∀ b ∈ [I, so], ∃ o, (g.get? b = some o ∨ (b, o) ∈ extra) ∧ o.cls ≠ .type "tuple") (f1 : m' "signs" = some (.ref sg)) (f2 : m' "log" = some (.ref lg)) (f3 : m' "told" = some (.ref to)) :
    ForPost g L [I, so] s (J5 g L ln ls sg lg to nms shs svs lvs scnt lcnt oN oS tups R (i + 1)) extra Q .next { s with heap := h, toks := tk } := by
  have zD := N _ (.head _)
  have hDf : Dt ∉ [I, so] := fun hb => by
    obtain ⟨o, ho, hc⟩ := hcls _ hb
    have h1 : h.get? Dt = some o := by
      rcases ho with ho | ho
      · exact F.keep _ _ ho
      · exact (N _ (.tail _ (.tail _ (.tail _ (.tail _ (.tail _ (.tail _ (.tail _ (.tail _ (.tail _ (.tail _ (.tail _ (.tail _ (.tail _ (.tail _ (List.mem_append_right _ ho)))))))))))))))).1
    rw [zD.1] at h1
    cases h1
    exact hc rfl
  refine ⟨h, tk, m', (to, W.listOf (tvs ++ [Value.ref Dt]).toArray (c + 1)) :: (lg, W.listOf lvs.toArray lcnt) :: (sg, W.listOf svs.toArray scnt) :: (Base L ln ls nms shs oN oS o3 o4 ++ ((Dt, tupO #[.int (Y : Int) t2, .str WW tW] 0) :: tups')), rfl, F, ?_, ?_,
    ⟨tvs ++ [Value.ref Dt], c + 1, o3, o4, v3, v4, (Dt, tupO #[.int (Y : Int) t2, .str WW tW] 0) :: tups', rfl, ?_, fun p hp => .tail _ (hsub p hp), ?_, d3, d4, f1, f2, f3⟩⟩
  · intro q hq
    have hq' : q ∈ ((to, W.listOf (tvs ++ [Value.ref Dt]).toArray (c + 1)) :: (lg, W.listOf lvs.toArray lcnt) :: (sg, W.listOf svs.toArray scnt) :: Base L ln ls nms shs oN oS o3 o4) ++ ((Dt, tupO #[.int (Y : Int) t2, .str WW tW] 0) :: (tups' ++ extra)) := by
      simpa using hq
    rcases List.mem_append.mp hq' with hq | hq
    · refine N q (.tail _ (.tail _ (.tail _ (.tail _ (.tail _ ?_)))))
      exact List.mem_append_left (bs := tups' ++ extra) (as := (to, W.listOf (tvs ++ [Value.ref Dt]).toArray (c + 1)) :: (lg, W.listOf lvs.toArray lcnt) :: (sg, W.listOf svs.toArray scnt) :: Base L ln ls nms shs oN oS o3 o4) hq
    · rcases List.mem_cons.mp hq with rfl | hq
      · exact zD
      · exact N q (.tail _ (.tail _ (.tail _ (.tail _ (.tail _ (.tail _ (.tail _ (.tail _ (.tail _ (.tail _ (.tail _ (.tail _ (.tail _ (.tail _ hq))))))))))))))
  · intro q hq
    have hq' : q ∈ ((to, W.listOf (tvs ++ [Value.ref Dt]).toArray (c + 1)) :: (lg, W.listOf lvs.toArray lcnt) :: (sg, W.listOf svs.toArray scnt) :: Base L ln ls nms shs oN oS o3 o4) ++ ((Dt, tupO #[.int (Y : Int) t2, .str WW tW] 0) :: tups') := hq
    rcases List.mem_append.mp hq' with hq | hq
    · refine hIa q.1 ?_
      iterate 9 (rcases List.mem_cons.mp hq with rfl | hq; (· k_mem))
      cases hq
    · rcases List.mem_cons.mp hq with rfl | hq
      · exact hDf
      · exact hIt q hq
  · intro p hp
    rcases List.mem_cons.mp hp with rfl | hp
    · exact ⟨rfl, rfl⟩
    · exact hcl' p hp
  · rw [take_in hY hin]
    refine (htv.mono fun _ _ x => x.mono fun p hp => .tail _ hp).snoc ⟨Dt, _, 0, rfl, .inl (.head _), t2, tW, ?_⟩
    rw [hW]
set_option maxHeartbeats 8000000 in
theorem lawG : ∀ w s₁ fa a1 so h tk ns, Ctx w s₁.heap s₁.heap → ns.length ≤ 63 → StF s₁ ns so h → lawF.1 w s₁ fa a1 so h tk := by
  · intro w s₁ fa a1 so h tk ns C hlen ⟨m, ln, ls, sg, lg, to, oN, oS, o3, o4, nms, shs, svs, scnt, lvs, lcnt, out, ocnt, tups₀, F, N₀, hcl₀, hlv₀, hout₀, hs, hB, d3, d4, hto, hso⟩
    obtain ⟨p, loose, mean, mg, mb, T⟩ := C.T
    have X' := C.X
    have T' := T
    have hlv : All2 (TN (SL (rightsOf ns)) s₁.heap (tups₀.filter fun p => isSeq p.2)) lvs (logN (rightsOf ns) 192) := hlv₀.mono fun _ _ x => x.filt
    have hout : All2 (TN S2 s₁.heap (tups₀.filter fun p => isSeq p.2)) out s31 := hout₀.mono fun _ _ x => x.filt
    have hcl : ∀ p ∈ tups₀.filter (fun p => isSeq p.2), p.2.cls = .type "tuple" ∧ isSeq p.2 = true := fun p hp => ⟨hcl₀ p (List.mem_filter.mp hp).1, (List.mem_filter.mp hp).2⟩
    have hfs : ∀ p ∈ Base s₁.heap.objs.size ln ls nms shs oN oS o3 o4 ++ tups₀.filter (fun p => isSeq p.2), p ∈ Base s₁.heap.objs.size ln ls nms shs oN oS o3 o4 ++ tups₀ := fun p hp => by
      rcases List.mem_append.mp hp with hp | hp
      · exact List.mem_append_left _ hp
      · exact List.mem_append_right _ (List.mem_filter.mp hp).1
    have N : News s₁.heap s₁.heap.objs.size h ((so, W.listOf (List.toArray out) ocnt) :: (to, W.listOf #[] 0) :: (lg, W.listOf (List.toArray lvs) lcnt) :: (sg, W.listOf (List.toArray svs) scnt) :: (Base s₁.heap.objs.size ln ls nms shs oN oS o3 o4 ++ tups₀.filter fun p => isSeq p.2)) := news_sub N₀ (by
      intro p hp
      simp only [List.mem_cons] at hp ⊢
      rcases hp with hp | hp | hp | hp | hp
      · exact .inl hp
      · exact .inr (.inl hp)
      · exact .inr (.inr (.inl hp))
      · exact .inr (.inr (.inr (.inl hp)))
      · exact .inr (.inr (.inr (.inr (hfs p hp)))))
    have hso' : ∀ p ∈ (to, W.listOf #[] 0) :: (lg, W.listOf (List.toArray lvs) lcnt) :: (sg, W.listOf (List.toArray svs) scnt) :: (Base s₁.heap.objs.size ln ls nms shs oN oS o3 o4 ++ tups₀.filter fun p => isSeq p.2), p.1 ≠ so := fun p hp => Nat.ne_of_lt (hso p (by
      simp only [List.mem_cons] at hp ⊢
      rcases hp with hp | hp | hp | hp
      · exact .inl hp
      · exact .inr (.inl hp)
      · exact .inr (.inr (.inl hp))
      · exact .inr (.inr (.inr (hfs p hp)))))
    clear N₀ hcl₀ hlv₀ hout₀ hso hfs
    generalize (tups₀.filter fun p => isSeq p.2) = tups at N hlv hout hcl hso'
    with_unfolding_all show wpAny _ _ _ _ _ _
    generalize hL : s₁.heap.objs.size = L at F N hto hso'
    have e1 : @LT.lt Nat _ lg to := hto _ (.head _)
    have e2 : @LT.lt Nat _ sg to := hto _ (.tail _ (.head _))
    have e3 : @LT.lt Nat _ ls to := hto _ (.tail _ (.tail _ (.head _)))
    have e4 : @LT.lt Nat _ ln to := hto _ (.tail _ (.tail _ (.tail _ (.head _))))
    have e5 : @LT.lt Nat _ (L + 1 + 1 + 1 + 1) to := hto _ (.tail _ (.tail _ (.tail _ (.tail _ (.head _)))))
    have hosz : out.toArray.size = 31 := by rw [List.size_toArray, hout.length]; decide
    refine my_for_listN (items := out.toArray) (cnt := ocnt) (J5 s₁.heap L ln ls sg lg to nms shs svs lvs scnt lcnt oN oS tups (rightsOf ns)) rfl rfl F N hso' ⟨[], 0, o3, o4, none, none, tups, rfl, hcl, (fun _ h => h), .nil, d3, d4, rfl, rfl, rfl⟩ ?_ ?_
    · rintro I i v h₁ tk₁ m₁ news₁ extra hi hv ⟨tvs, c, o3', o4', v3, v4, tups', rfl, hcl', hsub, htv, d3', d4', f1, f2, f3⟩ F₁ N₁ hex hI hcls
      clear F N d3 d4
      have hi31 : i < 31 := hosz ▸ hi
      obtain ⟨Y, hY⟩ : ∃ Y, sorted31[i]? = some Y := ⟨_, List.getElem?_eq_getElem (by show i < 31; exact hi31)⟩
      have hs31 : s31[i]? = some ((popN Y : Int), (Y : Int)) := by unfold s31; rw [List.getElem?_map, hY]; rfl
      obtain ⟨v', hv', a, arr, n', rfl, ha, t1, t2, rfl⟩ := hout.get hs31
      rw [List.getElem?_toArray, hv'] at hv; cases hv
      have hY32 : 1 ≤ Y ∧ Y < 32 := by
        have key : ∀ y ∈ sorted31, 1 ≤ y ∧ y < 32 := by decide
        exact key Y (List.mem_of_getElem? hY)
      replace F₁ := fr_map [("signs", .ref sg), ("log", .ref lg), ("told", .ref to)] (by intro p hp'; simp only [List.mem_cons, List.not_mem_nil, or_false] at hp'; rcases hp' with rfl | rfl | rfl <;> assumption) F₁
      clear f1 f2 f3
      have hta : h₁.IsTuple a #[.int (popN Y : Int) t1, .int (Y : Int) t2] := by
        refine ⟨tupO #[.int (popN Y : Int) t1, .int (Y : Int) t2] n', ?_, rfl, n', rfl⟩
        rcases ha with ha | ha
        · exact (N₁ _ (List.mem_append_left _ (.tail _ (.tail _ (.tail _ (List.mem_append_right _ (hsub _ ha))))))).1
        · exact F₁.keep _ _ ha
      have m3 : (L + 1 + 1 + 1, o3') ∈ (to, W.listOf tvs.toArray c) :: (lg, W.listOf lvs.toArray lcnt) :: (sg, W.listOf svs.toArray scnt) :: (Base L ln ls nms shs oN oS o3' o4' ++ tups') := .tail _ (.tail _ (.tail _ (.tail _ (.tail _ (.tail _ (.head _))))))
      have m4 : (L + 1 + 1 + 1 + 1, o4') ∈ (to, W.listOf tvs.toArray c) :: (lg, W.listOf lvs.toArray lcnt) :: (sg, W.listOf svs.toArray scnt) :: (Base L ln ls nms shs oN oS o3' o4' ++ tups') := .tail _ (.tail _ (.tail _ (.tail _ (.tail _ (.head _)))))
      have mT : ∀ p ∈ tups', p ∈ (to, W.listOf tvs.toArray c) :: (lg, W.listOf lvs.toArray lcnt) :: (sg, W.listOf svs.toArray scnt) :: (Base L ln ls nms shs oN oS o3' o4' ++ tups') := fun p hp => .tail _ (.tail _ (.tail _ (List.mem_append_right _ hp)))
      have c3 : ∀ p ∈ (to, W.listOf tvs.toArray c) :: (lg, W.listOf lvs.toArray lcnt) :: (sg, W.listOf svs.toArray scnt) :: (Base L ln ls nms shs oN oS o3' o4' ++ tups'), isSeq p.2 = true → p.1 ≠ L + 1 + 1 + 1 := fun p hp hq => cell_ne N₁ (List.mem_append_left _ m3) d3' (List.mem_append_left _ hp) hq
      have c4 : ∀ p ∈ (to, W.listOf tvs.toArray c) :: (lg, W.listOf lvs.toArray lcnt) :: (sg, W.listOf svs.toArray scnt) :: (Base L ln ls nms shs oN oS o3' o4' ++ tups'), isSeq p.2 = true → p.1 ≠ L + 1 + 1 + 1 + 1 := fun p hp hq => cell_ne N₁ (List.mem_append_left _ m4) d4' (List.mem_append_left _ hp) hq
      have w3 : ∀ p ∈ tups' ++ extra, p.1 ≠ L + 1 + 1 + 1 := fun p hp => (List.mem_append.mp hp).elim (fun hp => c3 p (mT p hp) (hcl' p hp).2) (fun hp => hex p hp _ m3)
      have w4 : ∀ p ∈ tups' ++ extra, p.1 ≠ L + 1 + 1 + 1 + 1 := fun p hp => (List.mem_append.mp hp).elim (fun hp => c4 p (mT p hp) (hcl' p hp).2) (fun hp => hex p hp _ m4)
      have wT : ∀ p ∈ tups' ++ extra, p.1 ≠ to := fun p hp => (List.mem_append.mp hp).elim (fun hp => tups_ne (fun q hq => N₁ q (List.mem_append_left _ (mT q hq))) (fun q hq => (hcl' q hq).1) (N₁ _ (List.mem_append_left _ (.head _))).1 (by simp) p hp) (fun hp => hex p hp _ (.head _))
      have b1 : @Ne Nat lg (L + 1 + 1 + 1) := c3 _ (.tail _ (.head _)) rfl
      have b2 : @Ne Nat sg (L + 1 + 1 + 1) := c3 _ (.tail _ (.tail _ (.head _))) rfl
      have b3 : @Ne Nat ls (L + 1 + 1 + 1) := c3 _ (.tail _ (.tail _ (.tail _ (.head _)))) rfl
      have b4 : @Ne Nat ln (L + 1 + 1 + 1) := c3 _ (.tail _ (.tail _ (.tail _ (.tail _ (.head _))))) rfl
      have b5 : @Ne Nat lg (L + 1 + 1 + 1 + 1) := c4 _ (.tail _ (.head _)) rfl
      have b6 : @Ne Nat sg (L + 1 + 1 + 1 + 1) := c4 _ (.tail _ (.tail _ (.head _))) rfl
      have b7 : @Ne Nat ls (L + 1 + 1 + 1 + 1) := c4 _ (.tail _ (.tail _ (.tail _ (.head _)))) rfl
      have b8 : @Ne Nat ln (L + 1 + 1 + 1 + 1) := c4 _ (.tail _ (.tail _ (.tail _ (.tail _ (.head _))))) rfl
      have hIa : ∀ a ∈ [to, lg, sg, ls, ln, L + 1 + 1 + 1 + 1, L + 1 + 1 + 1, L + 1 + 1, L + 1], a ∉ [I, so] := by
        intro a ha
        simp only [List.mem_cons, List.not_mem_nil, or_false] at ha
        rcases ha with rfl | rfl | rfl | rfl | rfl | rfl | rfl | rfl | rfl
        · exact hI (_, W.listOf tvs.toArray c) (.head _)
        · exact hI (_, W.listOf lvs.toArray lcnt) (.tail _ (.head _))
        · exact hI (_, W.listOf svs.toArray scnt) (.tail _ (.tail _ (.head _)))
        · exact hI (_, W.listOf shs.toArray 0) (.tail _ (.tail _ (.tail _ (.head _))))
        · exact hI (_, W.listOf nms.toArray 0) (.tail _ (.tail _ (.tail _ (.tail _ (.head _)))))
        · exact hI (_, o4') m4
        · exact hI (_, o3') m3
        · exact hI (_, oS) (.tail _ (.tail _ (.tail _ (.tail _ (.tail _ (.tail _ (.tail _ (.head _))))))))
        · exact hI (_, oN) (.tail _ (.tail _ (.tail _ (.tail _ (.tail _ (.tail _ (.tail _ (.tail _ (.head _)))))))))
      have hIt : ∀ p ∈ tups', p.1 ∉ [I, so] := fun p hp => hI p (mT p hp)
      have hIn : ∀ {o o5 o6 : Obj}, ∀ q ∈ (to, o) :: (lg, W.listOf lvs.toArray lcnt) :: (sg, W.listOf svs.toArray scnt) :: Base L ln ls nms shs oN oS o5 o6, q.1 ∉ [I, so] := by
        intro o o5 o6 q hq
        refine hIa q.1 ?_
        iterate 9 (rcases List.mem_cons.mp hq with rfl | hq; (· k_mem))
        cases hq
      obtain ⟨hsh, hnm, dN, dS⟩ := id hB
      have htvl : tvs.length < 1000 := by
        rw [htv.length]
        have h1 := List.length_filter_le (inU (rightsOf ns)) (sorted31.take i)
        have h2 := List.length_take_le i sorted31
        have h3 : i < 31 := hosz ▸ hi
        (first | lia | omega)
      clear c3 c4 m3 m4 hto hso'
      simp only [Base, List.cons_append, List.nil_append, List.append_assoc] at N₁
      refine unpackN_ F₁ N₁ hta rfl rfl rfl fun h₂ F₂ N₂ => ?_
      clear F₁ N₁
      try dsimp only
      (try k_fold); (try k_fold); k_steps
      show wpAny _ _ _ _ _ _
      rename Fr _ _ _ _ => F₃
      rename News _ _ _ _ => N₃
      rename (_ : Obj).data = .cell (some (.int _ _)) => d₃
      refine wpAny_Assign_Name ?_ (by with_unfolding_all rfl)
      refine my_Exp (cl := [(Str.ofString "chosen", L + 1 + 1 + 1)]) (fun i => ((nums ns)[i]?).any fun e => sub e.2.toNat Y) (fun i y _ => ∃ e, (nums ns)[i]? = some e ∧ ∃ t, y = .str (sgn e.2) t) (by with_unfolding_all rfl) rfl (by decide) ?_
      (try k_fold); (try k_fold); k_steps
      show wpAny _ _ _ _ _ _
      have hssz : svs.toArray.size = (nums ns).length := by rw [List.size_toArray, hs.length, List.length_map]
      have hn5 := (nums_len ns).1
      refine ready_list (target := .Name _ _) (items := svs.toArray) rfl rfl (PySem.IsL.isList (N₃ _ (.tail _ (.tail _ (.head _)))).1) fun I St s₂ Rd => ExpNext.intro Rd F₃ N₃ ?_ ?_ ?_
      · rw [sizeLine_eq, hssz]; (first | lia | omega)
      · intro g C' j v h₄ tk₄ m₂ cm₂ cells₂ extra₂ hg1 hg2 hj hP F₄ Y₄ N₄ hex₂ hall₂
        obtain ⟨e, he⟩ : ∃ e, (nums ns)[j]? = some e := ⟨_, List.getElem?_eq_getElem (by rw [← hssz]; exact hj)⟩
        obtain ⟨tv, hv2⟩ := StrsAre.at hs (j := j) (y := sgn e.2) (by rw [List.getElem?_map, he]; rfl)
        have hv : svs.toArray[j]? = some v := hP
        rw [List.getElem?_toArray, hv2] at hv; cases hv
        have her := nums_rng (List.mem_of_getElem? he)
        have hSl : (sgn e.2).length = 5 := sgn_len (by (first | lia | omega)) her.2.2.2
        have hcell : g.IsCell (L + 1 + 1 + 1) (some (.int (Y : Int) t2)) := ⟨_, hg1 _ _ (N₃ _ (.tail _ (.tail _ (.tail _ (.tail _ (.tail _ (.tail _ (.head _)))))))).1, d₃⟩
        have X₂ := X'.keeps (h' := g) fun b o e => hg1 _ _ (F₃.keep _ _ e)
        have T₂ := T.keeps (h' := g) fun b o e => hg1 _ _ (F₃.keep _ _ e)
        clear F₃ N₃ X' T T'
        have hexC : ∀ p ∈ extra₂, p.1 ≠ C' + 1 := fun p hp => hex₂ p hp _ (.head _)
        generalize hS : sgn e.2 = S at hSl
        cases Y₄ with
        | cons hc Y₄ =>
          cases Y₄
          simp only [List.cons_append, List.nil_append] at N₄
          try dsimp only [testsOf]
          (try k_fold); (try k_fold); k_steps
          show wpAny _ _ _ _ _ _
          rename Fr _ _ _ _ => F₅
          rename News _ _ _ _ => N₅
          rename (_ : Obj).data = .cell (some (.str _ _)) => d₅
          refine my_Exp (cl := [(Str.ofString "sign", C' + 1), (Str.ofString "chosen", L + 1 + 1 + 1)]) (fun k => (Txt.item S (k : Int) != Str.ofString "-") && decide ((Y : Int) / 2 ^ k % 2 = 0)) (fun k y _ => ∃ t, y = .int (k : Int) t) (by with_unfolding_all rfl) rfl (by decide) ?_
          (try k_fold); (try k_fold); k_steps
          show wpAny _ _ _ _ _ _
          rename Fr _ _ _ _ => F₆
          rename News _ _ _ _ => N₆
          rename IsRange _ _ _ _ _ _ _ _ => hR₆
          refine ready_range (n := 5) (target := .Name _ _) rfl rfl hR₆ (by (first | lia | omega)) fun I St s₂ Rd => ExpNext.intro Rd F₆ N₆ ?_ ?_ ?_
          · rw [sizeLine_eq]; (first | lia | omega)
          · intro g₂ C₂ k v h₇ tk₇ m₃ cm₃ cells₃ extra₃ hh1 hh2 hk hP₂ F₇ Y₇ N₇ hex₃ hall₃
            obtain ⟨tkk, rfl⟩ := hP₂
            have hcell2 : g₂.IsCell (L + 1 + 1 + 1) (some (.int (Y : Int) t2)) := hcell.keeps fun b o e => hh1 _ _ (F₆.keep _ _ e)
            have hcell3 : g₂.IsCell (C' + 1) (some (.str S tv)) := ⟨_, hh1 _ _ (N₆ _ (.head _)).1, d₅⟩
            have X₃ := X₂.keeps (h' := g₂) fun b o e => hh1 _ _ (F₆.keep _ _ e)
            clear F₆ N₆ X₂ T₂ hcell
            try dsimp only [testsOf]
            (try k_fold); (try k_fold); k_steps
            · rename (_ != _) = true => q1
              rename _ % 2 = 0 => q2
              rw [Int.toNat_natCast] at q2
              rw [q1, decide_eq_true q2]; rfl
            · rename Fr _ _ _ _ => F₈
              rename News _ _ _ _ => N₈
              exact CEnd.of F₈ Y₇ N₈ ⟨_, rfl⟩
            · rename (_ != _) = true => q1
              rename _ % 2 ≠ 0 => q2
              rw [Int.toNat_natCast] at q2
              rw [q1, decide_eq_false q2]; rfl
            · rename Fr _ _ _ _ => F₈
              rename News _ _ _ _ => N₈
              exact CEnd.of F₈ Y₇ N₈ trivial
            · rename (_ != _) = false => q1
              rw [q1]; rfl
            · rename Fr _ _ _ _ => F₈
              rename News _ _ _ _ => N₈
              exact CEnd.of F₈ Y₇ N₈ trivial
          · intro D h₇ tk₇ cnt₇ zs up hDn' F₇ N₇ hneZ hMz
            have hz : IntsAre zs (((List.range 5).filter fun k : Nat => (Txt.item S (k : Int) != Str.ofString "-") && decide ((Y : Int) / 2 ^ k % 2 = 0)).map fun k : Nat => (k : Int)) := All2.ints (ns := []) (f := fun k : Nat => (k : Int)) (hMz.mono fun y j ⟨_, h, _⟩ => h)
            have hin := inner_is (r := e.2) (Y := Y) (by (first | lia | omega)) her.2.2.2 hY32.2
            rw [hS] at hin
            generalize ((List.range 5).filter fun k : Nat => (Txt.item S (k : Int) != Str.ofString "-") && decide ((Y : Int) / 2 ^ k % 2 = 0)) = qs at hz hin
            clear hMz F₆ N₆ up
            try dsimp only
            (try k_fold); (try k_fold); k_steps
            · rw [he]
              show decide _ = sub e.2.toNat Y
              rw [← hin]
              cases qs <;> rfl
            · rename Fr _ _ _ _ => F₉
              rename News _ _ _ _ => N₉
              exact CEnd.of F₉ (.cons (cm := fun _ => some (.str S tv)) d₅ .nil) (fun p hp => N₉ p (.tail _ (.tail _ hp))) ⟨e, he, tv, by rw [hS]⟩
            · rename Fr _ _ _ _ => F₉
              rename News _ _ _ _ => N₉
              exact CEnd.of F₉ (.cons (cm := fun _ => some (.str S tv)) d₅ .nil) (fun p hp => N₉ p (.tail _ (.tail _ hp))) trivial
      · intro Dh h₄ tk₄ cnt₄ zs up hDn' F₄ N₄ hne hM
        have hz : StrsAre zs (((nums ns).filter fun e => sub e.2.toNat Y).map fun e => sgn e.2) := All2.toStrs (All2.of_map (R := fun y e => ∃ t, y = Value.str e t) (hM.filt hssz))
        have z4 : @Ne Nat Dh (L + 1 + 1 + 1 + 1) := fun e => hne _ (.tail _ (.tail _ (.tail _ (.tail _ (.tail _ (.head _)))))) e.symm
        have zT : @Ne Nat Dh to := fun e => hne _ (.head _) e.symm
        clear hM hne up hDn' F₃ N₃
        have hHL : ∀ x ∈ ((nums ns).filter fun e => sub e.2.toNat Y).map fun e => sgn e.2, x.length = 5 ∧ PyData.strOk x = true := fun x hx => by
          obtain ⟨e, he, rfl⟩ := List.mem_map.mp hx
          have := nums_rng (List.mem_filter.mp he).1
          exact ⟨sgn_len (by (first | lia | omega)) this.2.2.2, sgn_ok (by (first | lia | omega)) this.2.2.2⟩
        try dsimp only
        (try k_fold); (try k_fold); k_steps
        show wpAny _ _ _ _ _ _
        rename Fr _ _ _ _ => F₅
        rename News _ _ _ _ => N₅
        rename (_ : Obj).data = .cell (some (.ref _)) => d₆
        have mk : Mark := ⟨⟩
        generalize hHLe : (((nums ns).filter fun e => sub e.2.toNat Y).map fun e => sgn e.2) = HL at hz hHL
        have hzz : zs.toArray.size = HL.length := by rw [List.size_toArray]; exact hz.length
        have hH5 : HL.length ≤ 5 := by
          rw [← hHLe, List.length_map]
          exact Nat.le_trans (List.length_filter_le _ _) hn5
        refine my_Asg (cl := [(Str.ofString "held", L + 1 + 1 + 1 + 1)]) (fun k => (HL.filter fun s => Txt.item s (k : Int) == Str.ofString "-").isEmpty) (fun k y _ => ∃ t, y = .int (k : Int) t) (by with_unfolding_all rfl) (by with_unfolding_all rfl) rfl (by decide) (by with_unfolding_all rfl) (by with_unfolding_all rfl) ?_
        (try k_fold); (try k_fold); k_steps
        show wpAny _ _ _ _ _ _
        rename Fr _ _ _ _ => F₆
        rename News _ _ _ _ => N₆
        rename IsRange _ _ _ _ _ _ _ _ => hR₆
        refine ready_range (n := 5) (target := .Name _ _) rfl rfl hR₆ (by (first | lia | omega)) fun I St s₂ Rd => AsgNext.intro Rd F₆ N₆ ?_ ?_ ?_
        · rw [sizeLine_eq]; (first | lia | omega)
        · intro g C' k v h₇ tk₇ m₃ cm₃ cells₃ extra₃ hh1 hh2 hk hP₂ F₇ Y₇ N₇ hex₃ hall₃
          obtain ⟨tkk, rfl⟩ := hP₂
          have hheld : g.IsCell (L + 1 + 1 + 1 + 1) (some (.ref Dh)) := ⟨_, hh1 _ _ (N₆ _ (.tail _ (.tail _ (.tail _ (.tail _ (.tail _ (.tail _ (.head _)))))))).1, d₆⟩
          have hgD : g.IsList Dh zs.toArray := (PySem.IsL.isList (N₆ _ (.head _)).1).at fun o e => hh1 _ _ e
          have X₃ := X'.keeps (h' := g) fun b o e => hh1 _ _ (F₆.keep _ _ e)
          have T₃ := T.keeps (h' := g) fun b o e => hh1 _ _ (F₆.keep _ _ e)
          clear F₆ N₆ X' T T'
          have hexC : ∀ p ∈ extra₃, p.1 ≠ C' + 1 := fun p hp => hex₃ p hp _ (.head _)
          cases Y₇ with
          | cons hc Y₇ =>
            cases Y₇
            simp only [List.cons_append, List.nil_append] at N₇
            try dsimp only [testsOf]
            (try k_fold); (try k_fold); k_steps
            show wpAny _ _ _ _ _ _
            rename Fr _ _ _ _ => F₈
            rename News _ _ _ _ => N₈
            rename (_ : Obj).data = .cell (some (.int (k : Int) _)) => d₈
            refine my_Exp (cl := [(Str.ofString "k", C' + 1)]) (fun j => (HL[j]?).any fun s => Txt.item s (k : Int) == Str.ofString "-") (fun j y _ => ∃ s, HL[j]? = some s ∧ ∃ t, y = Value.str s t) (by with_unfolding_all rfl) rfl (by decide) ?_
            (try k_fold); (try k_fold); k_steps
            show wpAny _ _ _ _ _ _
            refine ready_list (target := .Name _ _) (items := zs.toArray) rfl rfl (hgD.at fun o e => F₈.keep _ _ e) fun I St s₂ Rd => ExpNext.intro Rd F₈ N₈ ?_ ?_ ?_
            · rw [sizeLine_eq, hzz]; (first | lia | omega)
            · intro g₂ C₂ j v h₉ tk₉ m₄ cm₄ cells₄ extra₄ hj1 hj2 hj hP₄ F₉ Y₉ N₉ hex₄ hall₄
              obtain ⟨S, hS⟩ : ∃ s, HL[j]? = some s := ⟨_, List.getElem?_eq_getElem (by rw [← hzz]; exact hj)⟩
              obtain ⟨tS, hv2⟩ := StrsAre.at hz (j := j) (y := S) hS
              have hv : zs.toArray[j]? = some v := hP₄
              rw [List.getElem?_toArray, hv2] at hv; cases hv
              have hSl := (hHL S (List.mem_of_getElem? hS)).1
              have hck : g₂.IsCell (C' + 1) (some (.int (k : Int) tkk)) := ⟨_, hj1 _ _ (N₈ _ (.head _)).1, d₈⟩
              have X₄ := X₃.keeps (h' := g₂) fun b o e => hj1 _ _ (F₈.keep _ _ e)
              clear F₈ N₈ X₃ T₃
              try dsimp only [testsOf]
              (try k_fold); (try k_fold); k_steps
              · rw [hS]; rfl
              · rename Fr _ _ _ _ => F₁₀
                rename News _ _ _ _ => N₁₀
                exact CEnd.of F₁₀ Y₉ N₁₀ ⟨S, hS, _, rfl⟩
              · rename Fr _ _ _ _ => F₁₀
                rename News _ _ _ _ => N₁₀
                exact CEnd.of F₁₀ Y₉ N₁₀ trivial
            · intro D h₉ tk₉ cnt₉ ws up hDn' F₉ N₉ hneZ hMz
              have hw := All2.toStrs ((hMz.filt hzz).mono fun y s ⟨t, e⟩ => ⟨t, e⟩)
              clear hMz F₈ N₈ up
              try dsimp only
              (try k_fold); (try k_fold); k_steps
              show wpAny _ _ (compareOp .Eq _ _) _ _ _
              rename Fr _ _ _ _ => F₁₀
              rename News _ _ _ _ => N₁₀
              refine eq_strs_nil (PySem.IsL.isList (N₁₀ _ (.tail _ (.head _))).1) (PySem.IsL.isList (N₁₀ _ (.head _)).1) hw (fun x hx => (hHL x (List.mem_filter.mp hx).1).2) (by simp only [units_deeper]; decide) ?_
              try dsimp only
              (try k_fold); (try k_fold); k_steps
              · exact CEnd.of F₁₀ (.cons (cm := fun _ => some (.int (k : Int) tkk)) d₈ .nil) (fun p hp => N₁₀ p (.tail _ (.tail _ hp))) ⟨_, rfl⟩
              · exact CEnd.of F₁₀ (.cons (cm := fun _ => some (.int (k : Int) tkk)) d₈ .nil) (fun p hp => N₁₀ p (.tail _ (.tail _ hp))) trivial
        · intro Dc h₇ tk₇ cnt₇ cs F₇ N₇ hneC hDc hMc
          have hcs : IntsAre cs (((List.range 5).filter fun k : Nat => (HL.filter fun s => Txt.item s (k : Int) == Str.ofString "-").isEmpty).map fun k : Nat => (k : Int)) := All2.ints (ns := []) (f := fun k : Nat => (k : Int)) (hMc.mono fun y j ⟨_, h, _⟩ => h)
          have zc : @Ne Nat Dc to := fun e => hneC _ (.tail _ (.head _)) e.symm
          clear hMc F₆ N₆ hDc
          generalize hks : ((List.range 5).filter fun k : Nat => (HL.filter fun s => Txt.item s (k : Int) == Str.ofString "-").isEmpty) = ks at hcs
          show wpAny _ _ _ _ _ _
          try dsimp only
          (try k_fold); (try k_fold); k_steps
          show wpAny _ _ (compareOp .NotEq _ _) _ _ _
          rename Fr _ _ _ _ => F₈
          rename News _ _ _ _ => N₈
          refine ne_strs_nil (PySem.IsL.isList (N₈ _ (.tail _ (.tail _ (.head _)))).1) (PySem.IsL.isList (N₈ _ (.head _)).1) hz (fun x hx => (hHL x hx).2) (by simp only [units_deeper]; decide) ?_
          try dsimp only
          have mk2 : Mark2 := ⟨⟩
          have hH2 : heldOf ns Y = HL := hHLe
          have hHe := HL_empty ns Y
          rw [hH2] at hHe
          (try k_fold); (try k_fold); k_steps
          · rename List.isEmpty _ = true => hq
            rw [hq] at hHe
            have hin : inU (rightsOf ns) Y = false := by simpa using hHe.symm
            rename Fr _ _ _ _ => F₉
            rename News _ _ _ _ => N₉
            refine ⟨_, _, _, (to, W.listOf tvs.toArray c) :: (lg, W.listOf lvs.toArray lcnt) :: (sg, W.listOf svs.toArray scnt) :: (Base L ln ls nms shs oN oS _ _ ++ tups'), rfl, F₉, ?_, ?_, ⟨tvs, c, _, _, _, _, tups', rfl, hcl', hsub, by rw [take_out hY hin]; exact htv, d₃, d₆, rfl, rfl, rfl⟩⟩
            · intro q hq
              simp only [Base, List.cons_append, List.nil_append, List.append_assoc] at hq
              exact N₉ q (.tail _ (.tail _ (.tail _ hq)))
            · intro q hq
              rcases List.mem_append.mp (show q ∈ ((to, W.listOf tvs.toArray c) :: (lg, W.listOf lvs.toArray lcnt) :: (sg, W.listOf svs.toArray scnt) :: Base L ln ls nms shs oN oS _ _) ++ tups' from hq) with hq | hq
              · exact hIn q hq
              · exact hIt q hq
          · show wpAny _ _ _ _ _ _
            rename List.isEmpty _ = false => hq
            rw [hq] at hHe
            have hin : inU (rightsOf ns) Y = true := by simpa using hHe.symm
            rename Fr _ _ _ _ => F₉
            rename News _ _ _ _ => N₉
            have hks2 : ks = (List.range 5).filter fun k => (Zc (rightsOf ns) Y).testBit k := by rw [← hks, ← hH2]; exact ks_is ns Y
            have hk5 : ∀ k ∈ ks, k < 5 := fun k hk => by rw [hks2] at hk; exact List.mem_range.mp (List.mem_filter.mp hk).1
            have hkl : ks.length ≤ 5 := by rw [hks2]; exact Nat.le_trans (List.length_filter_le _ _) (by simp)
            have hcz : cs.toArray.size = ks.length := by rw [List.size_toArray, hcs.length, List.length_map]
            refine my_Exp (cl := [(Str.ofString "names", L + 1)]) (fun _ => true) (fun j y _ => ∃ k, ks[j]? = some k ∧ ∃ t, y = Value.str (rname k) t) (by with_unfolding_all rfl) rfl (by decide) ?_
            (try k_fold); (try k_fold); k_steps
            show wpAny _ _ _ _ _ _
            refine ready_list (target := .Name _ _) (items := cs.toArray) rfl rfl (PySem.IsL.isList (N₉ _ (.tail _ (.head _))).1) fun I St s₂ Rd => ExpNext.intro Rd F₉ N₉ ?_ ?_ ?_
            · rw [sizeLine_eq, hcz]; (first | lia | omega)
            · intro g C' j v h₁₀ tk₁₀ m₄ cm₄ cells₄ extra₄ hg1 hg2 hj hP F₁₀ Y₁₀ N₁₀ hex₄ hall₄
              obtain ⟨z, tz, rfl, hzz2⟩ := IntsAre.at hcs j v (by simpa using hP)
              rw [List.getElem?_map] at hzz2
              obtain ⟨k, hk, rfl⟩ := Option.map_eq_some_iff.mp hzz2
              have hkk := hk5 k (List.mem_of_getElem? hk)
              have hcN : g.IsCell (L + 1) (some (.ref ln)) := ⟨oN, hg1 _ _ (N₉ (L + 1, oN) (.tail _ (.tail _ (.tail _ (.tail _ (.tail _ (.tail _ (.tail _ (.tail _ (.tail _ (.tail _ (.tail _ (.head _))))))))))))).1, dN⟩
              have hgl : g.IsList ln nms.toArray := (PySem.IsL.isList (N₉ (ln, W.listOf nms.toArray 0) (.tail _ (.tail _ (.tail _ (.tail _ (.tail _ (.tail _ (.tail _ (.head _))))))))).1).at fun o e => hg1 _ _ e
              have X₂ := X'.keeps (h' := g) fun b o e => hg1 _ _ (F₉.keep _ _ e)
              have T₂ := T.keeps (h' := g) fun b o e => hg1 _ _ (F₉.keep _ _ e)
              clear F₉ N₉ X' T T'
              try dsimp only [testsOf]
              (try k_fold); (try k_fold); k_steps
              show wpAny _ _ _ _ _ _
              rename Fr _ _ _ _ => F₁₁
              rename News _ _ _ _ => N₁₁
              obtain ⟨tx, hx⟩ := name_at hnm hkk
              have hgl₄ := hgl.at fun o e => F₁₁.keep _ _ e
              refine tail_any hgl₄.typeIs slot_list_getitem.lookup (wpAny_getItem_list hgl₄ (by (first | lia | omega)) (by (first | lia | omega)) (by simpa using hx) ?_) (by with_unfolding_all rfl)
              exact CEnd.of F₁₁ Y₁₀ N₁₁ ⟨k, hk, _, rfl⟩
            · intro Dw h₁₀ tk₁₀ cnt₁₀ ws up hDn' F₁₀ N₁₀ hneW hMw
              have hws : StrsAre ws (ks.map rname) := All2.toStrs (All2.of_map (R := fun y e => ∃ t, y = Value.str e t) (hMw.vals hcz))
              have zw : @Ne Nat Dw to := fun e => hneW _ (.tail _ (.tail _ (.tail _ (.head _)))) e.symm
              clear hMw F₉ N₉ up hDn'
              try dsimp only
              (try k_fold); (try k_fold); k_steps
              show wpAny _ _ _ _ _ _
              refine join_listW (PySem.IsL.isList (N₁₀ _ (.head _)).1) hws (by decide) (by rw [hks2]; exact names_weight ⟨_, Zc_lt (rightsOf ns) Y⟩) fun t₁₁ tk₁₁ => ?_
              have hW : Txt.join (Str.ofString ", ") (ks.map rname) = wordsOf (Zc (rightsOf ns) Y) := by rw [hks2]; rfl
              rw [hW]
              have hWi := words_is (Zc_lt (rightsOf ns) Y)
              generalize wordsOf (Zc (rightsOf ns) Y) = WW at hWi
              try dsimp only
              have hWl : WW.length ≤ 64 := by
                by_cases h : WW.length = 0
                · (first | lia | omega)
                · rw [if_neg h] at hWi
                  rw [hWi]; exact pf_len (Zc_lt (rightsOf ns) Y)
              refine P.truthy_str (by (first | lia | omega)) ?_
              by_cases h0 : WW.length = 0
              · rw [if_pos h0] at hWi
                rw [show ((WW.length : Int) != 0) = false from by simp [h0]]
                try dsimp only
                (try k_fold); (try k_fold); k_steps
                rename Fr _ _ _ _ => F₁₂
                rename News _ _ _ _ => N₁₂
                exact fin5 F₁₂ N₁₂ hWi hcl' hsub htv d₃ d₆ hY hin hIa hIt hcls rfl rfl rfl
              · rw [if_neg h0] at hWi
                rw [show ((WW.length : Int) != 0) = true from by simp [h0]]
                try dsimp only
                (try k_fold); (try k_fold); k_steps
                rename Fr _ _ _ _ => F₁₂
                rename News _ _ _ _ => N₁₂
                exact fin5 F₁₂ N₁₂ hWi hcl' hsub htv d₃ d₆ hY hin hIa hIt hcls rfl rfl rfl
    · rintro h₁ tk₁ m₁ news₁ ⟨tvs, c, o3', o4', v3, v4, tups', rfl, hcl', hsub, htv, d3', d4', f1, f2, f3⟩ F₁ N₁
      clear F N
      have hr31 : ∀ r ∈ rightsOf ns, 1 ≤ r := fun r hr => by
        obtain ⟨e, he, rfl⟩ := List.mem_map.mp hr
        have := nums_rng he
        (first | lia | omega)
      rw [hosz, show sorted31.take 31 = sorted31 from rfl, ← logN_all hr31] at htv
      replace F₁ := fr_map [("signs", .ref sg), ("log", .ref lg), ("told", .ref to)] (by intro p hp'; simp only [List.mem_cons, List.not_mem_nil, or_false] at hp'; rcases hp' with rfl | rfl | rfl <;> assumption) F₁
      clear f1 f2 f3
      have mk : Mark := ⟨⟩
      refine wpAny_execs_nil ?_
      try dsimp only
      (try k_fold); (try k_fold); k_steps
      show wpAny _ _ (compareOp .Eq _ _) _ _ _
      rename Fr _ _ _ _ => F₂
      rename News _ _ _ _ => N₂
      have Nt : News s₁.heap L _ tups' := news_sub N₂ (fun p hp => .tail _ (.tail _ (.tail _ (.tail _ (List.mem_append_right _ hp)))))
      refine eq_pairs_self (R := rightsOf ns) (l := logN (rightsOf ns) 192) (PySem.IsL.isList (N₂ _ (.tail _ (.tail _ (.head _)))).1) (PySem.IsL.isList (N₂ _ (.tail _ (.head _))).1) (hlv.mono fun _ _ x => (x.mono hsub).tp Nt F₂) (htv.mono fun _ _ x => x.tp Nt F₂) (by simp only [units_deeper]; decide) ?_
      try dsimp only
      (try k_fold); (try k_fold); k_steps
      exact ⟨rfl, _, _, rfl, fun b o e => F₂.keep b o e⟩
end Mine
end
open PySem PySem.W PyProof.Rows
theorem PySem.Challenge.cw_un0012_01_holds : PySem.Challenge.rw_un0012_01.Holds :=
  Mine.lawIn.2 (Mine.lawA.2 (Mine.lawB.2 (Mine.lawC.2 (Mine.lawD.2 (Mine.lawE.2 (Mine.lawF.2 Mine.lawG))))))
