import PyProof.Rows.All
import Wide.All
import OpenK.AllK
import Wide.FinOn
import Lean
import PySem.Challenge.RW_ph0161_01
set_option Elab.async false
set_option compiler.extract_closed false
namespace Mine
section
open PySem PySem.W PyProof.Rows
set_option maxRecDepth 100000 in
set_option maxHeartbeats 8000000 in
open_top hd for PySem.Challenge.rw_ph0161_01
end
section
local macro_rules | `(tactic| o_fieldsN) => `(tactic| first | assumption | exact Nat.lt_succ_self _ | decide | (apply Nat.lt_add_right; o_fieldsN) | (apply Nat.lt_trans; rotate_left; assumption; o_fieldsN))
local macro_rules | `(tactic| kat_tups) => `(tactic| first | assumption | (apply Nat.le_of_eq; assumption) | (apply Nat.add_le_add_right; assumption) | (apply Nat.add_lt_add_right; assumption))
local macro_rules | `(tactic| o_readsAll) => `(tactic| first | (apply Nat.le_trans; kat_tups) | (apply Nat.lt_of_le_of_lt; kat_tups) | (apply Nat.lt_of_lt_of_le; kat_tups))
local macro_rules | `(tactic| kaf_suf) => `(tactic| ((iterate 25 (try first | assumption | apply And.right)); done))
local macro_rules | `(tactic| kas_types) => `(tactic| first | (apply And.left; kaf_suf) | kaf_suf | (apply Nat.lt_trans; rotate_left; assumption; kas_types))
local macro_rules | `(tactic| kaf_pre) => `(tactic| with_reducible first | o_fieldsN | (apply Nat.ne_of_lt; o_fieldsN) | (apply Nat.ne_of_gt; o_fieldsN) | (o_readsAll; o_fieldsN) | (o_readsAll; o_readsAll; o_fieldsN) | exact Int.natCast_nonneg _ | (apply Ne.symm; assumption) | (apply Nat.ne_of_gt; kas_types) | (apply Nat.ne_of_lt; kas_types) | ((show @LT.lt Nat _ _ _); kas_types))
local macro_rules | `(tactic| omega) => `(tactic| first | kaf_pre | o_reads)
section
local macro_rules | `(tactic| o_reads) => `(tactic| lia)

-- part Pl
section
theorem two_of {α : Type} {l : List α} (h : l.length = 2) : ∃ a b, l = [a, b] := by
  cases l with
  | nil => exact absurd h (show ¬ 0 = 2 by decide)
  | cons a l => cases l with
    | nil => exact absurd h (show ¬ 1 = 2 by decide)
    | cons b l => cases l with
      | nil => exact ⟨a, b, rfl⟩
      | cons c l => exact absurd (Nat.succ.inj (Nat.succ.inj h)) (Nat.succ_ne_zero _)
theorem mid {lo hi : Nat} (h : lo < hi) : lo ≤ (lo + hi) / 2 ∧ (lo + hi) / 2 < hi ∧ (lo + hi) / 2 - lo ≤ (hi - lo) / 2 ∧ hi - ((lo + hi) / 2 + 1) ≤ (hi - lo) / 2 := by omega
theorem mid2 {lo hi n : Nat} (h : lo < hi) (h' : hi - lo ≤ n + 1) : (lo + hi) / 2 - lo ≤ n ∧ hi - ((lo + hi) / 2 + 1) ≤ n := by have := mid h; omega
/-- the plain search -/
noncomputable def bis {σ : Type} (probe : Nat → σ → Bool × σ) : Nat → Nat → Nat → σ → Nat × σ
  | 0, lo, _, st => (lo, st)
  | n + 1, lo, hi, st => if lo < hi then (if (probe ((lo + hi) / 2) st).1 = true then bis probe n lo ((lo + hi) / 2) (probe ((lo + hi) / 2) st).2 else bis probe n ((lo + hi) / 2 + 1) hi (probe ((lo + hi) / 2) st).2) else (lo, st)
theorem bis_end {σ : Type} (probe : Nat → σ → Bool × σ) {lo hi : Nat} (h : ¬ lo < hi) : ∀ n st, bis probe n lo hi st = (lo, st)
  | 0, _ => rfl
  | n + 1, st => by unfold bis; rw [if_neg h]
theorem bis_fuel {σ : Type} (probe : Nat → σ → Bool × σ) : ∀ n n' lo hi st, hi - lo ≤ n → hi - lo ≤ n' → bis probe n lo hi st = bis probe n' lo hi st := by
  intro n
  induction n with
  | zero => intro n' lo hi st h h'; have q : ¬ lo < hi := Nat.not_lt_of_le (Nat.le_of_sub_eq_zero (Nat.le_zero.mp h)); rw [bis_end probe q, bis_end probe q]
  | succ n ih =>
    intro n' lo hi st h h'
    by_cases hlt : lo < hi
    · cases n' with
      | zero => exact absurd hlt (Nat.not_lt_of_le (Nat.le_of_sub_eq_zero (Nat.le_zero.mp h')))
      | succ n' =>
        unfold bis
        rw [if_pos hlt, if_pos hlt]
        split
        · exact ih _ _ _ _ (mid2 hlt h).1 (mid2 hlt h').1
        · exact ih _ _ _ _ (mid2 hlt h).2 (mid2 hlt h').2
    · rw [bis_end probe hlt, bis_end probe hlt]
theorem bis_step {σ : Type} (probe : Nat → σ → Bool × σ) {lo hi : Nat} {st : σ} (h : lo < hi) :
    bis probe (hi - lo) lo hi st = if (probe ((lo + hi) / 2) st).1 = true then bis probe ((lo + hi) / 2 - lo) lo ((lo + hi) / 2) (probe ((lo + hi) / 2) st).2 else bis probe (hi - ((lo + hi) / 2 + 1)) ((lo + hi) / 2 + 1) hi (probe ((lo + hi) / 2) st).2 := by
  obtain ⟨n, hn⟩ : ∃ n, hi - lo = n + 1 := ⟨hi - lo - 1, (Nat.succ_pred_eq_of_pos (Nat.sub_pos_of_lt h)).symm⟩
  rw [hn]
  conv => lhs; unfold bis
  rw [if_pos h]
  split
  · exact bis_fuel _ _ _ _ _ _ (mid2 h (Nat.le_of_eq hn)).1 (Nat.le_refl _)
  · exact bis_fuel _ _ _ _ _ _ (mid2 h (Nat.le_of_eq hn)).2 (Nat.le_refl _)


/-- the state of a search: the last pair under, the last pair over, the looks so far -/
structure St where
  u : Nat × Nat
  o : Nat × Nat
  k : Nat
noncomputable def pairOf : List Nat → Nat × Nat
  | [a, b] => (a, b)
  | _ => (0, 0)
noncomputable def getP (q : Nat × Nat) : Nat → Nat
  | 0 => q.1
  | _ => q.2
noncomputable def enoughB (f : Nat → Nat × Nat → Nat) (upper : Bool) (t c : Nat) (q : Nat × Nat) : Bool := if upper then decide (f t q < c) else decide (f t q ≤ c)
/-- one look: the inner rest at this spot; does it come out as enough? -/
noncomputable def prb (f : Nat → Nat × Nat → Nat) (upper : Bool) (inner : List Nat → Nat × Nat → Nat × Nat → (Nat × Nat) × Nat) (t : Nat) (seen : List Nat) (c : Nat) (st : St) : Bool × St :=
  if enoughB f upper t c (inner (seen ++ [c]) st.u st.o).1 = true
  then (true, ⟨st.u, (inner (seen ++ [c]) st.u st.o).1, st.k + (inner (seen ++ [c]) st.u st.o).2 + 1⟩)
  else (false, ⟨(inner (seen ++ [c]) st.u st.o).1, st.o, st.k + (inner (seen ++ [c]) st.u st.o).2 + 1⟩)
/-- the law's nested search: the pair found, the looks taken -/
noncomputable def restF (f : Nat → Nat × Nat → Nat) (upper : Bool) : Nat → List Nat → Nat × Nat → Nat × Nat → (Nat × Nat) × Nat
  | 0, seen, _, _ => (pairOf seen, 0)
  | n + 1, seen, low, high =>
    let up := if upper then 1 else 0
    let b := bis (prb f upper (restF f upper n) seen.length seen) (getP high seen.length + up - (getP low seen.length + up)) (getP low seen.length + up) (getP high seen.length + up) ⟨low, high, 0⟩
    let r := restF f upper n (seen ++ [b.1 - up]) b.2.u b.2.o
    (r.1, b.2.k + r.2)
/-- a guest: the number of its name, its two wishes -/
abbrev Guest := Nat × Nat × Nat
noncomputable def crowd (gs : List Guest) (c : Nat) : List (Nat × Nat) := (gs.filter fun g => g.1 / 2 == c).map (·.2)
noncomputable def fitsP (q x : Nat × Nat) : Bool := decide (q.1 ≤ x.1) && decide (q.2 ≤ x.2)
noncomputable def come (gs : List Guest) (c : Nat) (x : Nat × Nat) : Nat := ((crowd gs c).filter fun q => fitsP q x).length

theorem bis_ge {σ : Type} (probe : Nat → σ → Bool × σ) : ∀ n lo hi st, lo ≤ (bis probe n lo hi st).1
  | 0, _, _, _ => Nat.le_refl _
  | n + 1, lo, hi, st => by
    unfold bis
    split
    · rename_i h
      split
      · exact bis_ge probe n _ _ _
      · exact Nat.le_trans (Nat.le_succ_of_le (mid h).1) (bis_ge probe n _ _ _)
    · exact Nat.le_refl _
theorem bis_le {σ : Type} (probe : Nat → σ → Bool × σ) : ∀ n lo hi st, (bis probe n lo hi st).1 ≤ max lo hi
  | 0, lo, hi, _ => Nat.le_max_left lo hi
  | n + 1, lo, hi, st => by
    unfold bis
    split
    · rename_i h
      split
      · exact Nat.le_trans (bis_le probe n _ _ _) (Nat.max_le.mpr ⟨Nat.le_max_left _ _, Nat.le_trans (Nat.le_of_lt (mid h).2.1) (Nat.le_max_right _ _)⟩)
      · exact Nat.le_trans (bis_le probe n _ _ _) (Nat.max_le.mpr ⟨Nat.le_trans (mid h).2.1 (Nat.le_max_right _ _), Nat.le_max_right _ _⟩)
    · exact Nat.le_max_left lo hi
/-- what every look keeps, the search keeps -/
theorem bis_inv {σ : Type} (probe : Nat → σ → Bool × σ) (I : σ → Prop) (lo₀ hi₀ : Nat) (hI : ∀ c st, lo₀ ≤ c → c < hi₀ → I st → I (probe c st).2) : ∀ n lo hi st, lo₀ ≤ lo → hi ≤ hi₀ → I st → I (bis probe n lo hi st).2
  | 0, _, _, _, _, _, h => h
  | n + 1, lo, hi, st, h1, h2, h => by
    unfold bis
    split
    · rename_i hl
      obtain ⟨m1, m2, -, -⟩ := mid hl
      split
      · exact bis_inv probe I lo₀ hi₀ hI n _ _ _ h1 (Nat.le_trans (Nat.le_of_lt m2) h2) (hI _ _ (Nat.le_trans h1 m1) (Nat.lt_of_lt_of_le m2 h2) h)
      · exact bis_inv probe I lo₀ hi₀ hI n _ _ _ (Nat.le_succ_of_le (Nat.le_trans h1 m1)) h2 (hI _ _ (Nat.le_trans h1 m1) (Nat.lt_of_lt_of_le m2 h2) h)
    · exact h
def St.le9 (st : St) : Prop := st.u.1 ≤ 9 ∧ st.u.2 ≤ 9 ∧ st.o.1 ≤ 9 ∧ st.o.2 ≤ 9
theorem getP_le {q : Nat × Nat} (h1 : q.1 ≤ 9) (h2 : q.2 ≤ 9) (t : Nat) : getP q t ≤ 9 := by
  unfold getP; split <;> assumption
theorem pairOf_le {l : List Nat} (h : ∀ i ∈ l, i ≤ 9) : (pairOf l).1 ≤ 9 ∧ (pairOf l).2 ≤ 9 := by
  unfold pairOf
  split
  · rename_i a b
    exact ⟨h a (by simp), h b (by simp)⟩
  · exact ⟨by decide, by decide⟩
theorem prb_le {f : Nat → Nat × Nat → Nat} {upper : Bool} {inner : List Nat → Nat × Nat → Nat × Nat → (Nat × Nat) × Nat} {t : Nat} {seen : List Nat} {c : Nat} {st : St} (h : st.le9) (hi : (inner (seen ++ [c]) st.u st.o).1.1 ≤ 9 ∧ (inner (seen ++ [c]) st.u st.o).1.2 ≤ 9) :
    (prb f upper inner t seen c st).2.le9 := by
  unfold prb
  split
  · exact ⟨h.1, h.2.1, hi.1, hi.2⟩
  · exact ⟨hi.1, hi.2, h.2.2.1, h.2.2.2⟩
theorem snoc_le {l : List Nat} (h : ∀ i ∈ l, i ≤ 9) {c : Nat} (hc : c ≤ 9) : ∀ i ∈ l ++ [c], i ≤ 9 := by
  intro i hi
  rcases List.mem_append.mp hi with hi | hi
  · exact h i hi
  · rw [List.mem_singleton.mp hi]; exact hc
theorem restF_le (f : Nat → Nat × Nat → Nat) (upper : Bool) : ∀ n seen low high, (∀ i ∈ seen, i ≤ 9) → low.1 ≤ 9 → low.2 ≤ 9 → high.1 ≤ 9 → high.2 ≤ 9 → (restF f upper n seen low high).1.1 ≤ 9 ∧ (restF f upper n seen low high).1.2 ≤ 9
  | 0, seen, low, high, hs, _, _, _, _ => pairOf_le hs
  | n + 1, seen, low, high, hs, h1, h2, h3, h4 => by
    unfold restF
    dsimp only
    have hl := getP_le h1 h2 seen.length
    have hh := getP_le h3 h4 seen.length
    have hst := bis_inv (prb f upper (restF f upper n) seen.length seen) St.le9 (getP low seen.length + if upper then 1 else 0) (getP high seen.length + if upper then 1 else 0)
      (fun c st hc1 hc2 h => prb_le h (restF_le f upper n _ _ _ (snoc_le hs (by cases upper <;> simp at hc2 <;> omega)) h.1 h.2.1 h.2.2.1 h.2.2.2)) (getP high seen.length + (if upper then 1 else 0) - (getP low seen.length + if upper then 1 else 0)) _ _ ⟨low, high, 0⟩ (Nat.le_refl _) (Nat.le_refl _) ⟨h1, h2, h3, h4⟩
    have hb := bis_le (prb f upper (restF f upper n) seen.length seen) (getP high seen.length + (if upper then 1 else 0) - (getP low seen.length + if upper then 1 else 0)) (getP low seen.length + if upper then 1 else 0) (getP high seen.length + if upper then 1 else 0) ⟨low, high, 0⟩
    exact restF_le f upper n _ _ _ (snoc_le hs (by revert hb; generalize (bis _ _ _ _ _).1 = z; cases upper <;> simp <;> omega)) hst.1 hst.2.1 hst.2.2.1 hst.2.2.2

/-- looks are bounded: each look adds at most m + 1 -/
theorem bis_count {probe : Nat → St → Bool × St} {m : Nat} (hp : ∀ c st, (probe c st).2.k ≤ st.k + m) : ∀ n lo hi st, (bis probe n lo hi st).2.k ≤ st.k + m * n
  | 0, _, _, _ => by unfold bis; simp
  | n + 1, lo, hi, st => by
    unfold bis
    have h1 := hp ((lo + hi) / 2) st
    rw [Nat.mul_succ]
    split
    · split
      · exact Nat.le_trans (bis_count hp n _ _ _) (by omega)
      · exact Nat.le_trans (bis_count hp n _ _ _) (by omega)
    · show st.k ≤ _
      omega
theorem prb_count {f : Nat → Nat × Nat → Nat} {upper : Bool} {inner : List Nat → Nat × Nat → Nat × Nat → (Nat × Nat) × Nat} {t m : Nat} {seen : List Nat} (hi : ∀ s u o, (inner s u o).2 ≤ m) (c : Nat) (st : St) : (prb f upper inner t seen c st).2.k ≤ st.k + (m + 1) := by
  unfold prb
  have := hi (seen ++ [c]) st.u st.o
  split <;> dsimp only <;> omega
theorem restF_zero {f : Nat → Nat × Nat → Nat} {upper : Bool} (s : List Nat) (u o : Nat × Nat) : (restF f upper 0 s u o).2 = 0 := rfl
theorem restF_one {f : Nat → Nat × Nat → Nat} {upper : Bool} (s : List Nat) {u o : Nat × Nat} (h1 : o.1 ≤ 9) (h2 : o.2 ≤ 9) : (restF f upper 1 s u o).2 ≤ 9 := by
  unfold restF
  dsimp only
  rw [restF_zero]
  have := bis_count (probe := prb f upper (restF f upper 0) s.length s) (m := 1) (fun c st => prb_count (m := 0) (fun s u o => Nat.le_of_eq (restF_zero s u o)) c st) (getP o s.length + (if upper then 1 else 0) - (getP u s.length + if upper then 1 else 0)) (getP u s.length + if upper then 1 else 0) (getP o s.length + if upper then 1 else 0) ⟨u, o, 0⟩
  have h3 := getP_le h1 h2 s.length
  have h4 : getP o s.length + (if upper = true then 1 else 0) - (getP u s.length + if upper = true then 1 else 0) ≤ 9 := by cases upper <;> simp <;> omega
  dsimp only at this
  omega

end

-- part Pl2
section
noncomputable def bits (n : Nat) : Nat := if 8 ≤ n then 4 else if 4 ≤ n then 3 else if 2 ≤ n then 2 else if 1 ≤ n then 1 else 0
theorem bits_half {n k : Nat} (h : 0 < n) (hn : n ≤ 15) (hk : k ≤ n / 2) : bits k + 1 ≤ bits n := by
  have key : ∀ n < 16, ∀ k < 16, 0 < n → k ≤ n / 2 → bits k + 1 ≤ bits n := by decide +kernel
  exact key n (Nat.lt_succ_of_le hn) k (Nat.lt_succ_of_le (Nat.le_trans hk (Nat.le_trans (Nat.div_le_self n 2) hn))) h hk
theorem bits_min (n : Nat) : bits n = bits (min n 8) := by
  by_cases h : 8 ≤ n
  · rw [Nat.min_eq_right h]
    unfold bits
    rw [if_pos h, if_pos (Nat.le_refl 8)]
  · rw [Nat.min_eq_left (Nat.le_of_lt (Nat.lt_of_not_le h))]
theorem bits_mono {n k : Nat} (hk : k ≤ n) : bits k ≤ bits n := by
  have key : ∀ n < 9, ∀ k < 9, k ≤ n → bits k ≤ bits n := by decide +kernel
  rw [bits_min n, bits_min k]
  exact key _ (Nat.lt_succ_of_le (Nat.min_le_right _ _)) _ (Nat.lt_succ_of_le (Nat.min_le_right _ _)) (by omega)
theorem bis_all {σ : Type} (probe : Nat → σ → Bool × σ) (I : Nat → Nat → σ → Prop)
    (step : ∀ lo hi st, lo < hi → I lo hi st → if (probe ((lo + hi) / 2) st).1 = true then I lo ((lo + hi) / 2) (probe ((lo + hi) / 2) st).2 else I ((lo + hi) / 2 + 1) hi (probe ((lo + hi) / 2) st).2) :
    ∀ n lo hi st, hi - lo ≤ n → lo ≤ hi → I lo hi st → I (bis probe n lo hi st).1 (bis probe n lo hi st).1 (bis probe n lo hi st).2
  | 0, lo, hi, st, h1, h2, h => by
    have e : hi = lo := Nat.le_antisymm (Nat.le_of_sub_eq_zero (Nat.le_zero.mp h1)) h2
    subst e
    exact h
  | n + 1, lo, hi, st, h1, h2, h => by
    unfold bis
    by_cases hlt : lo < hi
    · rw [if_pos hlt]
      have q := step lo hi st hlt h
      split
      · rename_i e
        rw [if_pos e] at q
        exact bis_all probe I step n _ _ _ (mid2 hlt h1).1 (mid hlt).1 q
      · rename_i e
        rw [if_neg e] at q
        exact bis_all probe I step n _ _ _ (mid2 hlt h1).2 (mid hlt).2.1 q
    · rw [if_neg hlt]
      have e : hi = lo := Nat.le_antisymm (Nat.le_of_not_lt hlt) h2
      subst e
      exact h
theorem wid {lo hi a b u : Nat} (h1 : a + u ≤ lo) (h2 : hi ≤ b + u) : hi - lo ≤ b := by omega
def Mono2 (f : Nat → Nat × Nat → Nat) : Prop := ∀ t (p q : Nat × Nat), p.1 ≤ q.1 → p.2 ≤ q.2 → f t p ≤ f t q
noncomputable def upN (upper : Bool) : Nat := if upper then 1 else 0
theorem enough_iff {f : Nat → Nat × Nat → Nat} {upper : Bool} {t c : Nat} {q : Nat × Nat} : enoughB f upper t c q = true ↔ f t q + upN upper ≤ c := by
  unfold enoughB upN
  cases upper <;> simp <;> omega
theorem rest_inner {f : Nat → Nat × Nat → Nat} (hf : Mono2 f) (upper : Bool) {x : Nat} {low high : Nat × Nat} (h1 : low.2 ≤ f 1 (x, low.2)) (h2 : f 1 (x, high.2) ≤ high.2) (h3 : low.2 ≤ high.2) (h4 : high.2 ≤ 15) :
    ∃ y, (restF f upper 1 [x] low high).1 = (x, y) ∧ low.2 ≤ y ∧ y ≤ high.2 ∧ f 1 (x, y) = y ∧ (restF f upper 1 [x] low high).2 ≤ bits high.2 := by
  have key := bis_all (prb f upper (restF f upper 0) 1 [x]) (fun lo hi st => low.2 + upN upper ≤ lo ∧ hi ≤ high.2 + upN upper ∧ lo ≤ hi ∧ lo - upN upper ≤ f 1 (x, lo - upN upper) ∧ f 1 (x, hi - upN upper) ≤ hi - upN upper ∧ st.k + bits (hi - lo) ≤ bits high.2)
    (fun lo hi st hlt h => by
      obtain ⟨i1, i2, i3, i4, i5, i6⟩ := h
      obtain ⟨m1, m2, m3, m4⟩ := mid hlt
      have h15 : hi - lo ≤ 15 := Nat.le_trans (wid i1 i2) h4
      have hb := bits_half (n := hi - lo) (k := (lo + hi) / 2 - lo) (Nat.sub_pos_of_lt hlt) h15 m3
      have hb' := bits_half (n := hi - lo) (k := hi - ((lo + hi) / 2 + 1)) (Nat.sub_pos_of_lt hlt) h15 m4
      clear m3 m4 h15
      have hr : restF f upper 0 ([x] ++ [(lo + hi) / 2]) st.u st.o = ((x, (lo + hi) / 2), 0) := rfl
      generalize (lo + hi) / 2 = md at *
      unfold prb
      rw [hr]
      by_cases he : enoughB f upper 1 (md) (x, md) = true
      · have := enough_iff.mp he
        rw [if_pos he]
        dsimp only
        rw [if_pos rfl]
        have hm := hf 1 (x, md - upN upper) (x, md) (Nat.le_refl _) (Nat.sub_le _ _)
        refine ⟨i1, by omega, by omega, i4, by omega, by omega⟩
      · have := mt enough_iff.mpr he
        rw [if_neg he]
        dsimp only
        rw [if_neg (by decide)]
        have hm := hf 1 (x, md) (x, md + 1 - upN upper) (Nat.le_refl _) (by show _ ≤ _; unfold upN; split <;> omega)
        refine ⟨by omega, i2, by omega, by omega, i5, by omega⟩)
    (high.2 + upN upper - (low.2 + upN upper)) (low.2 + upN upper) (high.2 + upN upper) ⟨low, high, 0⟩ (Nat.le_refl _) (by omega)
    ⟨Nat.le_refl _, Nat.le_refl _, by omega, by rw [Nat.add_sub_cancel]; exact h1, by rw [Nat.add_sub_cancel]; exact h2, by dsimp only; have := bits_mono (n := high.2) (k := high.2 + upN upper - (low.2 + upN upper)) (by omega); omega⟩
  have e : restF f upper 1 [x] low high = ((x, (bis (prb f upper (restF f upper 0) 1 [x]) (high.2 + upN upper - (low.2 + upN upper)) (low.2 + upN upper) (high.2 + upN upper) ⟨low, high, 0⟩).1 - upN upper),
    (bis (prb f upper (restF f upper 0) 1 [x]) (high.2 + upN upper - (low.2 + upN upper)) (low.2 + upN upper) (high.2 + upN upper) ⟨low, high, 0⟩).2.k + 0) := rfl
  rw [e]
  generalize bis (prb f upper (restF f upper 0) 1 [x]) (high.2 + upN upper - (low.2 + upN upper)) (low.2 + upN upper) (high.2 + upN upper) ⟨low, high, 0⟩ = b at *
  obtain ⟨k1, k2, -, k4, k5, k6⟩ := key
  exact ⟨_, rfl, by omega, by omega, by omega, by dsimp only; omega⟩
theorem rest_outer {f : Nat → Nat × Nat → Nat} (hf : Mono2 f) (upper : Bool) {n0 n1 : Nat} (h0 : ∀ p, f 0 p ≤ n0) (h1 : ∀ p, f 1 p ≤ n1) (g0 : n0 ≤ 15) (g1 : n1 ≤ 15) :
    ∃ x y, (restF f upper 2 [] (0, 0) (n0, n1)).1 = (x, y) ∧ x ≤ n0 ∧ y ≤ n1 ∧ f 0 (x, y) = x ∧ f 1 (x, y) = y ∧ (restF f upper 2 [] (0, 0) (n0, n1)).2 ≤ bits n0 * (bits n1 + 1) + bits n1 := by
  have key := bis_all (prb f upper (restF f upper 1) 0 []) (fun lo hi st => upN upper ≤ lo ∧ hi ≤ n0 + upN upper ∧ lo ≤ hi ∧ st.u.1 ≤ lo - upN upper ∧ hi - upN upper ≤ st.o.1 ∧ st.u.1 ≤ st.o.1 ∧ st.u.2 ≤ st.o.2 ∧ st.o.2 ≤ n1 ∧
      lo - upN upper ≤ f 0 st.u ∧ f 0 st.o ≤ hi - upN upper ∧ st.u.2 ≤ f 1 st.u ∧ f 1 st.o ≤ st.o.2 ∧ st.k + bits (hi - lo) * (bits n1 + 1) ≤ bits n0 * (bits n1 + 1))
    (fun lo hi st hlt h => by
      obtain ⟨i1, i2, i3, i4, i5, i6, i7, i8, i9, j1, j2, j3, j4⟩ := h
      obtain ⟨q1, q2, q3, q4⟩ := mid hlt
      have h15 : hi - lo ≤ 15 := Nat.le_trans (wid (Nat.le_trans (Nat.le_of_eq (Nat.zero_add _)) i1) i2) g0
      have hb := bits_half (n := hi - lo) (k := (lo + hi) / 2 - lo) (Nat.sub_pos_of_lt hlt) h15 q3
      have hb' := bits_half (n := hi - lo) (k := hi - ((lo + hi) / 2 + 1)) (Nat.sub_pos_of_lt hlt) h15 q4
      clear q3 q4 h15
      generalize (lo + hi) / 2 = md at *
      have m1 := Nat.mul_le_mul_right (bits n1 + 1) hb
      have m2 := Nat.mul_le_mul_right (bits n1 + 1) hb'
      rw [Nat.succ_mul] at m1 m2
      have hup : upN upper ≤ 1 := by unfold upN; split <;> omega
      obtain ⟨y, e1, e2, e3, e4, e5⟩ := rest_inner hf upper (x := md) (low := st.u) (high := st.o)
        (Nat.le_trans j2 (hf 1 _ _ (by show _ ≤ _; omega) (Nat.le_refl _))) (Nat.le_trans (hf 1 _ st.o (by show _ ≤ _; omega) (Nat.le_refl _)) j3) i7 (by omega)
      have e6 := bits_mono i8
      have en : ([] : List Nat) ++ [md] = [md] := rfl
      unfold prb
      rw [en]
      generalize hr : restF f upper 1 [md] st.u st.o = r at *
      obtain ⟨r1, r2⟩ := r
      dsimp only at e1 e5 ⊢
      subst e1
      have l1 := hf 0 st.u (md, y) (by show _ ≤ _; omega) e2
      have l2 := hf 0 (md, y) st.o (by show _ ≤ _; omega) e3
      by_cases he : enoughB f upper 0 (md) (md, y) = true
      · have := enough_iff.mp he
        rw [if_pos he]
        dsimp only
        rw [if_pos rfl]
        refine ⟨i1, by omega, by omega, i4, by omega, by omega, e2, by omega, i9, by omega, j2, by omega, by omega⟩
      · have := mt enough_iff.mpr he
        rw [if_neg he]
        dsimp only
        rw [if_neg (by decide)]
        refine ⟨by omega, i2, by omega, by omega, i5, by omega, e3, i8, by omega, j1, by omega, j3, by omega⟩)
    (n0 + upN upper - (0 + upN upper)) (0 + upN upper) (n0 + upN upper) ⟨(0, 0), (n0, n1), 0⟩ (Nat.le_refl _) (by omega)
    ⟨by omega, Nat.le_refl _, by omega, Nat.zero_le _, by rw [Nat.add_sub_cancel]; exact Nat.le_refl _, Nat.zero_le _, Nat.zero_le _, Nat.le_refl _, by rw [Nat.add_sub_cancel]; exact Nat.zero_le _, by rw [Nat.add_sub_cancel]; exact h0 _, Nat.zero_le _, h1 _, by
      dsimp only
      have := Nat.mul_le_mul_right (bits n1 + 1) (bits_mono (n := n0) (k := n0 + upN upper - (0 + upN upper)) (by omega))
      omega⟩
  have e : restF f upper 2 [] (0, 0) (n0, n1) = (fun b => ((restF f upper 1 [b.1 - upN upper] b.2.u b.2.o).1, b.2.k + (restF f upper 1 [b.1 - upN upper] b.2.u b.2.o).2))
    (bis (prb f upper (restF f upper 1) 0 []) (n0 + upN upper - (0 + upN upper)) (0 + upN upper) (n0 + upN upper) ⟨(0, 0), (n0, n1), 0⟩) := rfl
  rw [e]
  generalize bis (prb f upper (restF f upper 1) 0 []) (n0 + upN upper - (0 + upN upper)) (0 + upN upper) (n0 + upN upper) ⟨(0, 0), (n0, n1), 0⟩ = b at *
  obtain ⟨i1, i2, i3, i4, i5, i6, i7, i8, i9, j1, j2, j3, j4⟩ := key
  dsimp only
  obtain ⟨y, e1, e2, e3, e4, e5⟩ := rest_inner hf upper (x := b.1 - upN upper) (low := b.2.u) (high := b.2.o)
    (Nat.le_trans j2 (hf 1 _ _ (by show _ ≤ _; omega) (Nat.le_refl _))) (Nat.le_trans (hf 1 _ b.2.o (by show _ ≤ _; omega) (Nat.le_refl _)) j3) i7 (by omega)
  have e6 := bits_mono i8
  have l1 := hf 0 b.2.u (b.1 - upN upper, y) (by show _ ≤ _; omega) e2
  have l2 := hf 0 (b.1 - upN upper, y) b.2.o (by show _ ≤ _; omega) e3
  refine ⟨_, y, e1, by omega, by omega, by omega, e4, ?_⟩
  have z : bits (b.1 - b.1) = 0 := by rw [Nat.sub_self]; rfl
  rw [z] at j4
  omega

end

-- part Pl3
section
noncomputable def cP (c : Nat) (l : List Guest) : Nat := l.countP fun g => g.1 / 2 == c
theorem come_eq (gs : List Guest) (c : Nat) (p : Nat × Nat) : come gs c p = gs.countP fun g => g.1 / 2 == c && fitsP g.2 p := by
  unfold come crowd
  rw [← List.countP_eq_length_filter, List.countP_map, List.countP_filter]
  congr 1
  funext g
  simp [Bool.and_comm]
theorem crowd_eq (gs : List Guest) (c : Nat) : (crowd gs c).length = cP c gs := by
  unfold crowd cP
  rw [List.length_map, List.countP_eq_length_filter]
theorem come_le (gs : List Guest) (c : Nat) (p : Nat × Nat) : come gs c p ≤ cP c gs := by
  rw [← crowd_eq]; exact List.length_filter_le _ _
theorem fitsP_mono {q x y : Nat × Nat} (h1 : x.1 ≤ y.1) (h2 : x.2 ≤ y.2) (h : fitsP q x = true) : fitsP q y = true := by
  unfold fitsP at *
  simp only [Bool.and_eq_true, decide_eq_true_eq] at *
  omega
theorem come_mono (gs : List Guest) : Mono2 (come gs) := by
  intro t p q h1 h2
  rw [come_eq, come_eq]
  refine List.countP_mono_left fun g _ h => ?_
  simp only [Bool.and_eq_true] at *
  exact ⟨h.1, fitsP_mono h1 h2 h.2⟩
def IsRest (gs : List Guest) (r : Nat × Nat) : Prop := come gs 0 r = r.1 ∧ come gs 1 r = r.2
noncomputable def pairMv (n : Nat × Nat) (coming : Bool) (mv : List Guest) : Nat × Nat := if coming then (cP 0 mv, cP 1 mv) else (n.1 - cP 0 mv, n.2 - cP 1 mv)
noncomputable def wholeOf (gs : List Guest) : Nat × Nat := (cP 0 gs, cP 1 gs)
noncomputable def wants (n : Nat × Nat) (coming : Bool) (mv : List Guest) (g : Guest) : Bool := fitsP g.2 (pairMv n coming mv) == coming
def leP (a b : Nat × Nat) : Prop := a.1 ≤ b.1 ∧ a.2 ≤ b.2
structure MvInv (gs : List Guest) (coming : Bool) (mv rs : List Guest) : Prop where
  split : ∀ pr : Guest → Bool, mv.countP pr + rs.countP pr = gs.countP pr
  sound : ∀ g ∈ mv, wants (wholeOf gs) coming mv g = true
  best : ∀ r, IsRest gs r → if coming = true then leP (pairMv (wholeOf gs) coming mv) r else leP r (pairMv (wholeOf gs) coming mv)
theorem MvInv.start (gs gs' : List Guest) (coming : Bool) (hp : ∀ pr : Guest → Bool, gs'.countP pr = gs.countP pr) : MvInv gs coming [] gs' := by
  refine ⟨fun pr => by rw [List.countP_nil, Nat.zero_add, hp], fun g h => (nomatch h), fun r hr => ?_⟩
  unfold pairMv leP wholeOf
  have h0 := come_le gs 0 r
  have h1 := come_le gs 1 r
  rw [hr.1] at h0
  rw [hr.2] at h1
  cases coming
  · simp only [Bool.false_eq_true, if_false, cP, List.countP_nil, Nat.sub_zero] at *; exact ⟨h0, h1⟩
  · simp only [if_true, cP, List.countP_nil]; exact ⟨Nat.zero_le _, Nat.zero_le _⟩
theorem cP_snoc (c : Nat) (l : List Guest) (g : Guest) : cP c l ≤ cP c (l ++ [g]) := by
  unfold cP; rw [List.countP_append]; exact Nat.le_add_right _ _
theorem rest_cnt {gs : List Guest} {r : Nat × Nat} (hr : IsRest gs r) : (gs.countP fun g => g.1 / 2 == 0 && fitsP g.2 r) = r.1 ∧ (gs.countP fun g => g.1 / 2 == 1 && fitsP g.2 r) = r.2 := by
  rw [← come_eq, ← come_eq]; exact hr
theorem cnt_all {l : List Guest} {r : Nat × Nat} (h : ∀ g ∈ l, fitsP g.2 r = true) (c : Nat) : (l.countP fun g => g.1 / 2 == c && fitsP g.2 r) = cP c l := by
  unfold cP
  refine List.countP_congr fun g hg => ?_
  rw [h g hg, Bool.and_true]
theorem cnt_none {l : List Guest} {r : Nat × Nat} (h : ∀ g ∈ l, fitsP g.2 r = false) (c : Nat) : (l.countP fun g => g.1 / 2 == c && fitsP g.2 r) = 0 := by
  refine List.countP_eq_zero.mpr fun g hg => ?_
  rw [h g hg, Bool.and_false]
  decide
theorem cnt_le (l : List Guest) (r : Nat × Nat) (c : Nat) : (l.countP fun g => g.1 / 2 == c && fitsP g.2 r) ≤ cP c l := by
  unfold cP
  exact List.countP_mono_left fun g _ h => by simp only [Bool.and_eq_true] at h; exact h.1
theorem MvInv.move {gs : List Guest} {coming : Bool} {mv a b : List Guest} {g : Guest} (I : MvInv gs coming mv (a ++ g :: b)) (hw : wants (wholeOf gs) coming mv g = true) : MvInv gs coming (mv ++ [g]) (a ++ b) := by
  have hsp : ∀ pr : Guest → Bool, (mv ++ [g]).countP pr + (a ++ b).countP pr = gs.countP pr := fun pr => by
    have := I.split pr
    simp only [List.countP_append, List.countP_cons, List.countP_nil] at *
    omega
  have c0 := cP_snoc 0 mv g
  have c1 := cP_snoc 1 mv g
  have s0 := hsp fun g => g.1 / 2 == 0
  have s1 := hsp fun g => g.1 / 2 == 1
  have both : ∀ x ∈ mv ++ [g], wants (wholeOf gs) coming mv x = true := fun x hx => by
    rcases List.mem_append.mp hx with hx | hx
    · exact I.sound x hx
    · rw [List.mem_singleton.mp hx]; exact hw
  refine ⟨hsp, fun x hx => ?_, fun r hr => ?_⟩
  · have := both x hx
    unfold wants pairMv at *
    cases coming
    · simp only [Bool.false_eq_true, if_false, beq_false, Bool.not_eq_true'] at *
      cases q : fitsP x.2 ((wholeOf gs).1 - cP 0 (mv ++ [g]), (wholeOf gs).2 - cP 1 (mv ++ [g])) with
      | false => rfl
      | true => rw [fitsP_mono (by dsimp only; omega) (by dsimp only; omega) q] at this; cases this
    · simp only [if_true, beq_true] at *
      exact fitsP_mono c0 c1 this
  · have hb := I.best r hr
    obtain ⟨r0, r1⟩ := rest_cnt hr
    have t0 := hsp fun g => g.1 / 2 == 0 && fitsP g.2 r
    have t1 := hsp fun g => g.1 / 2 == 1 && fitsP g.2 r
    rw [r0] at t0
    rw [r1] at t1
    cases coming
    · simp only [Bool.false_eq_true, if_false, pairMv, leP] at *
      have hn : ∀ x ∈ mv ++ [g], fitsP x.2 r = false := fun x hx => by
        have := both x hx
        simp only [wants, Bool.false_eq_true, if_false, pairMv, beq_false, Bool.not_eq_true'] at this
        cases q : fitsP x.2 r with
        | false => rfl
        | true => rw [fitsP_mono hb.1 hb.2 q] at this; cases this
      rw [cnt_none hn] at t0 t1
      have k0 := cnt_le (a ++ b) r 0
      have k1 := cnt_le (a ++ b) r 1
      simp only [wholeOf, cP] at *
      omega
    · simp only [if_true, pairMv, leP] at *
      have hn : ∀ x ∈ mv ++ [g], fitsP x.2 r = true := fun x hx => by
        have := both x hx
        simp only [wants, if_true, pairMv, beq_true] at this
        exact fitsP_mono hb.1 hb.2 this
      rw [cnt_all hn] at t0 t1
      omega
theorem MvInv.done {gs : List Guest} {coming : Bool} {mv rs : List Guest} (I : MvInv gs coming mv rs) (hs : ∀ g ∈ rs, wants (wholeOf gs) coming mv g = false) : IsRest gs (pairMv (wholeOf gs) coming mv) := by
  unfold IsRest
  rw [come_eq, come_eq, ← I.split, ← I.split]
  have s0 := I.split fun g => g.1 / 2 == 0
  have s1 := I.split fun g => g.1 / 2 == 1
  have hd := I.sound
  cases coming
  · have h1 : ∀ g ∈ mv, fitsP g.2 (pairMv (wholeOf gs) false mv) = false := fun g hg => by simpa [wants] using hd g hg
    have h2 : ∀ g ∈ rs, fitsP g.2 (pairMv (wholeOf gs) false mv) = true := fun g hg => by simpa [wants] using hs g hg
    rw [cnt_none h1, cnt_none h1, cnt_all h2, cnt_all h2]
    simp only [pairMv, Bool.false_eq_true, if_false, wholeOf, cP] at *
    omega
  · have h1 : ∀ g ∈ mv, fitsP g.2 (pairMv (wholeOf gs) true mv) = true := fun g hg => by simpa [wants] using hd g hg
    have h2 : ∀ g ∈ rs, fitsP g.2 (pairMv (wholeOf gs) true mv) = false := fun g hg => by simpa [wants] using hs g hg
    rw [cnt_all h1, cnt_all h1, cnt_none h2, cnt_none h2]
    simp only [pairMv, if_true]
    omega
/-- within a round: pre gone through, nr of it still there -/
structure RdInv (gs : List Guest) (coming : Bool) (mv pre nr todo : List Guest) : Prop where
  inv : MvInv gs coming mv (nr ++ todo)
  sub : nr.Sublist pre
  still : nr.length = pre.length → ∀ g ∈ nr, wants (wholeOf gs) coming mv g = false
theorem RdInv.start {gs : List Guest} {coming : Bool} {mv before : List Guest} (I : MvInv gs coming mv before) : RdInv gs coming mv [] [] before :=
  ⟨by simpa using I, List.Sublist.refl _, fun _ g h => nomatch h⟩
theorem RdInv.move {gs : List Guest} {coming : Bool} {mv pre nr todo : List Guest} {g : Guest} (I : RdInv gs coming mv pre nr (g :: todo)) (hw : wants (wholeOf gs) coming mv g = true) : RdInv gs coming (mv ++ [g]) (pre ++ [g]) nr todo :=
  ⟨I.inv.move hw, I.sub.trans (List.sublist_append_left _ _), fun e => by have := I.sub.length_le; rw [List.length_append, List.length_singleton] at e; omega⟩
theorem RdInv.stay {gs : List Guest} {coming : Bool} {mv pre nr todo : List Guest} {g : Guest} (I : RdInv gs coming mv pre nr (g :: todo)) (hw : wants (wholeOf gs) coming mv g = false) : RdInv gs coming mv (pre ++ [g]) (nr ++ [g]) todo := by
  refine ⟨by have := I.inv; rwa [← List.append_cons], I.sub.append (List.Sublist.refl _), fun e x hx => ?_⟩
  rcases List.mem_append.mp hx with hx | hx
  · exact I.still (by simpa using e) x hx
  · rw [List.mem_singleton.mp hx]; exact hw
theorem pairMv_le {gs : List Guest} {coming : Bool} {mv rs : List Guest} (I : MvInv gs coming mv rs) : leP (pairMv (wholeOf gs) coming mv) (wholeOf gs) := by
  have s0 := I.split fun g => g.1 / 2 == 0
  have s1 := I.split fun g => g.1 / 2 == 1
  unfold pairMv leP wholeOf
  cases coming
  · simp only [Bool.false_eq_true, if_false, cP] at *; omega
  · simp only [if_true, cP] at *; omega

end

-- part Base
section
open PySem PySem.Spec PySem.Calls PySem.W PyProof.Rows
set_option maxRecDepth 100000


/-- the callee's ground g under a caller's heap h: all but the ledger's objects -/
structure Grown (news : List (Addr × Obj)) (h g : Heap) (L' : Addr) : Prop where
  up : ∀ b o, h.get? b = some o → b ∉ news.map (·.1) → g.get? b = some o
  down : ∀ b o, g.get? b = some o → h.get? b = some o
  lt : ∀ b o, h.get? b = some o → b < L'
  above : h.objs.size ≤ L'

theorem Grown.nil {h g : Heap} {L' : Addr} (G : Grown [] h g L') : ∀ b o, h.get? b = some o → g.get? b = some o := fun b o e => G.up b o e (fun q => nomatch q)

theorem Grown.fresh {h g : Heap} {L' r : Addr} (G : Grown [] h g L') (e : g.get? r = none) : h.get? r = none := by
  cases q : h.get? r with
  | none => rfl
  | some o => rw [G.nil r o q] at e; cases e

theorem hid_none {H : Heap} {l : List Addr} {a : Addr} (e : H.get? a = none) : (hideAll H l).get? a = none :=
  Option.eq_none_iff_forall_ne_some.mpr fun _ q => nomatch e.symm.trans (of_hideAll _ q)

section
variable {prog : Program} {w : World} {K : Frag} {A₀ A : Around} {s : Shared} {base h₀ : Heap} {outer : List Env} {L : Addr} {m mg mb : Str → Option Value} {news : List (Addr × Obj)}
  {p : Program} {loose : List Str} {mean : ExcName → Option Value} {env : Env} {R : Result → Shared → Prop} {name qual : Str} {params : Arguments} {body : List Stmt} {scope : Scope}
  {dV kV doc pm cdv ct oc : Value} {an od : Option Addr} {osl : Array (Option Value)} {f : Addr} {args : Args} {binds : List (Str × Value)} {cl : List (Str × Addr)} {fo : Obj}

theorem ground_M (B : Below A₀ base outer h₀) (F : Fr h₀ L s.heap m) (N : News h₀ L s.heap news) (hA : A.frames = some (env :: outer)) (hf : env.frame = some L) (hke : env.scope.kind = .function) :
    Below A base (env :: outer) (hideAll s.heap (news.map (·.1))) ∧ h₀.StaysIn (hideAll s.heap (news.map (·.1))) ∧ Grown news s.heap (hideAll s.heap (news.map (·.1))) s.heap.objs.size := by
  obtain ⟨_, BG, st, _⟩ := groundX (R := fun _ _ => True) B F N hA hf hke
  exact ⟨BG, st, ⟨fun b o e q => hideAll_get _ e q, fun b o e => of_hideAll _ e, fun b o e => Heap.lt_size e, Nat.le_refl _⟩⟩

/-- a def without cells of its own: its frame, its ground -/
theorem codeX_M (B : Below A₀ base outer h₀) (F : Fr h₀ L s.heap m) (X₀ : K.In h₀) (N : News h₀ L s.heap news) (T : Top p loose mean mg mb h₀) (hA : A.frames = some (env :: outer)) (hf : env.frame = some L) (hke : env.scope.kind = .function)
    (ho : s.heap.get? f = some fo) (hd : fo.data = .func (fnX name qual params body scope cl dV kV doc pm an cdv ct)) (hcd : s.heap.CodeRec cdv qual) (hroom : A.depth < recursionLimit)
    (hbind : BindsTo s (fnX name qual params body scope cl dV kV doc pm an cdv ct) args binds) (hloc : ∀ y ∈ binds, scope.names.lookup y.1 = some .local)
    (h : ∀ g L' h₁, Grown news s.heap g L' → Fr g L' h₁ (fun y => binds.reverse.lookup y) → News g L' h₁ news → Below A base (env :: outer) g → K.In g → Top p loose mean mg mb g →
      wpAny (model prog w) (A.deeper (envX qual scope L' f cdv cl)) (execs body (envX qual scope L' f cdv cl))
        (fun fl s' => R (.ok (.ret (match fl with | .ret v => v | _ => .none))) s')
        (fun e s' => wpAny (model prog w) (A.deeper (envX qual scope L' f cdv cl)) (leaving (envX qual scope L' f cdv cl) e) (fun _ s'' => R (.error e) s'') (fun e' s'' => R (.error e') s'') s')
        { s with heap := h₁, toks := s.toks + binds.length })
    (hco : scope.isCoroutine = false) (hgen : scope.isGenerator = false) (hk : scope.kind = .function)
    (hcell : ∀ x ∈ scope.names, x.2 ≠ .cell) : codeAny (model prog w) A (.call (.ref f) args) R s := by
  obtain ⟨BG, st, G⟩ := ground_M B F N hA hf hke
  refine codeAny_call_def (fd := fnX name qual params body scope cl dV kV doc pm an cdv ct) (body := body) (binds := binds) hroom ho hd (T.nolimit.keeps F.keep) hcd rfl hbind hcell hloc (fun h₁ hns hk₁ => ?_) hco hgen hk
  exact h _ s.heap.objs.size h₁ G ⟨hns, fun b o e => hk₁ b o (of_hideAll _ e), Nat.le_of_eq (hideAll_size _ _)⟩
    (fun p hp => ⟨hk₁ _ _ (N p hp).1, Nat.ne_of_lt (Heap.lt_size (N p hp).1), hideAll_none _ (List.mem_map_of_mem hp)⟩) BG (X₀.keeps st) (T.keeps st)

theorem code_M (hA : A.frames = some (env :: outer)) (hf : env.frame = some L) (hke : env.scope.kind = .function) (B : Below A₀ base outer h₀) (F : Fr h₀ L s.heap m) (X₀ : K.In h₀) (N : News h₀ L s.heap news) (T : Top p loose mean mg mb h₀)
    (ho : K.lookup f = some ⟨oc, od, .func (fnOf name qual params body scope dV kV doc pm an cdv ct), osl⟩) (hcd : codeIn K cdv qual = true) (hroom : A.depth < recursionLimit)
    (hbind : BindsTo s (fnOf name qual params body scope dV kV doc pm an cdv ct) args binds)
    (hcell : ∀ x ∈ scope.names, x.2 ≠ .cell) (hloc : ∀ y ∈ binds, scope.names.lookup y.1 = some .local)
    (hco : scope.isCoroutine = false) (hgen : scope.isGenerator = false) (hk : scope.kind = .function)
    (h : ∀ g L' h₁, Grown news s.heap g L' → Fr g L' h₁ (fun y => binds.reverse.lookup y) → News g L' h₁ news → Below A base (env :: outer) g → K.In g → Top p loose mean mg mb g →
      wpAny (model prog w) (A.deeper (envOf qual scope L' f cdv)) (execs body (envOf qual scope L' f cdv))
        (fun fl s' => R (.ok (.ret (match fl with | .ret v => v | _ => .none))) s')
        (fun e s' => wpAny (model prog w) (A.deeper (envOf qual scope L' f cdv)) (leaving (envOf qual scope L' f cdv) e) (fun _ s'' => R (.error e) s'') (fun e' s'' => R (.error e') s'') s')
        { s with heap := h₁, toks := s.toks + binds.length }) : codeAny (model prog w) A (.call (.ref f) args) R s :=
  codeX_M (cl := []) B F X₀ N T hA hf hke ((X₀.keeps F.keep) _ _ ho) rfl (codeRec_of (X₀.keeps F.keep) hcd) hroom hbind hloc h hco hgen hk hcell

/-- a def with cells of its own, none of another's -/
theorem code_MC (hA : A.frames = some (env :: outer)) (hf : env.frame = some L) (hke : env.scope.kind = .function) (B : Below A₀ base outer h₀) (F : Fr h₀ L s.heap m) (X₀ : K.In h₀) (N : News h₀ L s.heap news) (T : Top p loose mean mg mb h₀)
    (ho : K.lookup f = some ⟨oc, od, .func (fnOf name qual params body scope dV kV doc pm an cdv ct), osl⟩) (hcd : codeIn K cdv qual = true) (hroom : A.depth < recursionLimit)
    (hbind : BindsTo s (fnOf name qual params body scope dV kV doc pm an cdv ct) args binds) (hkind : (binds.all fun y => scope.names.lookup y.1 == some .local || scope.names.lookup y.1 == some .cell) = true)
    (hnd : ((cellsFrom 0 scope.names []).map (·.1)).Nodup)
    (hco : scope.isCoroutine = false) (hgen : scope.isGenerator = false) (hk : scope.kind = .function)
    (h : ∀ g L' h₁ tk cells, Grown news s.heap g L' → Fr g L' h₁ (bindL (envOfC qual scope L' f cdv).kindOf binds fun _ => none) → News g L' h₁ (cells ++ news) →
      CellsAre (bindC (envOfC qual scope L' f cdv).kindOf binds fun _ => none) (cellsFrom (L' + 1) scope.names []) cells → Below A base (env :: outer) g → K.In g → Top p loose mean mg mb g →
      wpAny (model prog w) (A.deeper (envOfC qual scope L' f cdv)) (execs body (envOfC qual scope L' f cdv))
        (fun fl s' => R (.ok (.ret (match fl with | .ret v => v | _ => .none))) s')
        (fun e s' => wpAny (model prog w) (A.deeper (envOfC qual scope L' f cdv)) (leaving (envOfC qual scope L' f cdv) e) (fun _ s'' => R (.error e) s'') (fun e' s'' => R (.error e') s'') s')
        { s with heap := h₁, toks := tk }) : codeAny (model prog w) A (.call (.ref f) args) R s := by
  obtain ⟨BG, st, G⟩ := ground_M B F N hA hf hke
  refine codeAny_call_function hroom ((X₀.keeps F.keep) _ _ ho) rfl hco hgen rfl (codeRec_of (X₀.keeps F.keep) hcd) (hbind _ _ _ _ ?_)
  refine wpAny_newFunctionEnv_cells hk (kindsX hkind _) fun env' he s' x => ?_
  subst he
  refine ⟨(T.nolimit.keeps F.keep).keeps x.toInCall.keep, codeAny_func ?_⟩
  obtain ⟨h₁, tk, rfl, _⟩ := x.done
  have hk₁ := x.toInCall.keep
  obtain ⟨cells, NC, Y⟩ := Cl.news (h₀ := s.heap) (Nat.le_refl _) fun n c hm => ⟨x.cell n c (lookup_of_mem_nodup (cellsFrom_names scope.names 0 (s.heap.objs.size + 1) [] [] rfl ▸ hnd) hm), x.above n c hm⟩
  refine h _ s.heap.objs.size h₁ tk cells G ⟨x.toInCall.ns, fun b o e => hk₁ b o (of_hideAll _ e), Nat.le_of_eq (hideAll_size _ _)⟩
    (List.forall_mem_append.mpr ⟨fun q hq => ⟨(NC q hq).1, (NC q hq).2.1, hid_none (NC q hq).2.2⟩, fun q hq => ⟨hk₁ _ _ (N q hq).1, Nat.ne_of_lt (Heap.lt_size (N q hq).1), hideAll_none _ (List.mem_map_of_mem hq)⟩⟩) Y BG (X₀.keeps st) (T.keeps st)
end

/-- the first object that a reading of the written part lays, laid -/
theorem peekA_M {α : Type} {K : Frag} {M : Model} {A : Around} {E : Value → Shared → Prop} {Q : α → Shared → Prop} {s : Shared} {o : Obj} (X : K.In s.heap) {g : Addr → Sem α}
    (q : wpAny M A (g s.heap.objs.size) Q E { s with heap := s.heap.push o }) (t : Sem α) : peekA K ⟨M.prog, M.w.params⟩ t = some (o, g) → wpAny M A t Q E s := by
  induction t with
  | alloc ob k =>
    intro e
    cases (Option.some.inj e : (ob, k) = (o, g))
    exact (wpAny_bind (wpAny_alloc q) : wpAny M A (alloc o >>= g) Q E s)
  | load a _ k ih =>
    cases hl : K.lookup a with
    | none => simp only [peekA, hl, reduceCtorEq, false_implies]
    | some ob => exact fun e Γ p hΓ => ⟨ob, X a ob hl, ih ob (by simpa only [peekA, hl] using e) Γ p hΓ⟩
  | ask k ih => exact fun e Γ p => ih _ e Γ p
  | point _ k ih => exact fun e Γ p => ih () e Γ p
  | rule _ k ih => exact fun e Γ p => ih () e Γ p
  | _ => exact fun e => nomatch (e : none = some _)

section
variable {prog : Program} {w : World} {K : Frag} {A₀ A : Around} {s : Shared} {base h₀ : Heap} {outer : List Env} {L : Addr} {m mg mb : Str → Option Value} {news : List (Addr × Obj)}
  {p : Program} {loose : List Str} {mean : ExcName → Option Value} {env : Env} {R : Result → Shared → Prop} {name qual : Str} {params : Arguments} {body : List Stmt} {scope : Scope}
  {dV kV doc pm cdv ct oc : Value} {an od : Option Addr} {osl : Array (Option Value)} {f : Addr} {args : Args} {binds : Addr → List (Str × Value)} {g₁ : Addr → Sem (List (Str × Value))}
/-- a def with **names, called with none for them -/
theorem code_Mmore (hA : A.frames = some (env :: outer)) (hf : env.frame = some L) (hke : env.scope.kind = .function) (B : Below A₀ base outer h₀) (F : Fr h₀ L s.heap m) (X₀ : K.In h₀) (N : News h₀ L s.heap news) (T : Top p loose mean mg mb h₀)
    (ho : K.lookup f = some ⟨oc, od, .func (fnOf name qual params body scope dV kV doc pm an cdv ct), osl⟩) (hcd : codeIn K cdv qual = true) (hroom : A.depth < recursionLimit)
    (hp : peekA K ⟨prog, w.params⟩ (bindArgs (fnOf name qual params body scope dV kV doc pm an cdv ct) args) = some (dictOf [] 0, g₁))
    (hk₁ : ∀ D, g₁ D = pure (binds D)) (hloc : ∀ D, ∀ y ∈ binds D, scope.names.lookup y.1 = some .local)
    (hco : scope.isCoroutine = false) (hgen : scope.isGenerator = false) (hk : scope.kind = .function)
    (hcell : ∀ x ∈ scope.names, x.2 ≠ .cell)
    (h : ∀ D o g L' h₁, Grown news s.heap g L' → s.heap.get? D = none → (∀ p ∈ news, p.1 < D) → (D == sysModules) = false → o.IsDictOf (strKind prog w) [] → PyProof.V.FlatPairs PyData.str [] [] → Fr g L' h₁ (fun y => (binds D).reverse.lookup y) → News g L' h₁ ((D, o) :: news) → Below A base (env :: outer) g → K.In g → Top p loose mean mg mb g →
      wpAny (model prog w) (A.deeper (envOf qual scope L' f cdv)) (execs body (envOf qual scope L' f cdv))
        (fun fl s' => R (.ok (.ret (match fl with | .ret v => v | _ => .none))) s')
        (fun e s' => wpAny (model prog w) (A.deeper (envOf qual scope L' f cdv)) (leaving (envOf qual scope L' f cdv) e) (fun _ s'' => R (.error e) s'') (fun e' s'' => R (.error e') s'') s')
        { s with heap := h₁, toks := s.toks + (binds D).length }) : codeAny (model prog w) A (.call (.ref f) args) R s := by
  refine codeAny_call_function (fd := fnOf name qual params body scope dV kV doc pm an cdv ct) (body := body) hroom ((X₀.keeps F.keep) _ _ ho) rfl hco hgen rfl (codeRec_of (X₀.keeps F.keep) hcd) ?_
  refine peekA_M (X₀.keeps F.keep) ?_ _ hp
  rw [hk₁]
  refine wpAny_pure ?_
  have F₁ : Fr h₀ L (s.heap.push (dictOf [] 0)) m := F.push _
  have N₁ := News.push F N (dictOf [] 0)
  obtain ⟨BG, st, G⟩ := ground_M (s := { s with heap := s.heap.push (dictOf [] 0) }) B F₁ N₁ hA hf hke
  have hD : s.heap.get? s.heap.objs.size = none := by
    cases q : s.heap.get? s.heap.objs.size with
    | none => rfl
    | some o => exact absurd (Heap.lt_size q) (Nat.lt_irrefl _)
  refine wpAny_newFunctionEnv hcell (hloc _) (fun h₁ hns hsb => ⟨(T.nolimit.keeps F₁.keep).fresh _ hsb, codeAny_func ?_⟩) hk
  have hk₂ : ∀ b o, (s.heap.push (dictOf [] 0)).get? b = some o → h₁.get? b = some o := fun b o e => hsb.extBut b o (Nat.ne_of_lt (Heap.lt_size e)) (Heap.get?_push_of_some _ e)
  refine h s.heap.objs.size (dictOf [] 0) _ _ h₁ ⟨fun b o e q => ?_, fun b o e => ?_, fun b o e => ?_, ?_⟩ hD (fun p hp => Heap.lt_size (N p hp).1) (F.notModules (modules_low T.nolimit)) (kp_isDict (ex := []) s.toks 0 List.nodup_nil) .nil
    ⟨hns, fun b o e => hk₂ b o (of_hideAll _ e), Nat.le_of_eq (hideAll_size _ _)⟩ (fun p hp => ⟨hk₂ _ _ (N₁ p hp).1, Nat.ne_of_lt (Heap.lt_size (N₁ p hp).1), hideAll_none _ (List.mem_map_of_mem hp)⟩) BG (X₀.keeps st) (T.keeps st)
  · refine hideAll_get _ (Heap.get?_push_of_some _ e) fun q' => ?_
    rcases List.mem_cons.mp q' with rfl | q'
    · rw [hD] at e; cases e
    · exact q q'
  · have e' := of_hideAll _ e
    by_cases hb : b = s.heap.objs.size
    · have := hideAll_none (h := s.heap.push (dictOf [] 0)) (List.map (fun x => x.1) ((s.heap.objs.size, dictOf [] 0) :: news)) (b := b) (by rw [hb]; exact .head _)
      rw [this] at e; cases e
    · rw [Heap.get?_push_ne _ _ _ hb] at e'; exact e'
  · exact Nat.lt_of_lt_of_le (Heap.lt_size e) (by rw [Heap.size_push]; exact Nat.le_succ _)
  · rw [Heap.size_push]; exact Nat.le_succ _
end
section
variable {M : Model} {A : Around} {E : Value → Shared → Prop} {s : Shared}
theorem at101 {x : Addr} {y : Str} {t : Tok} {k : List (Str × Value)} {Q : Value → Shared → Prop} (h : wpAny M A (PySem.call (.ref 101) [.ref x, .str y t] k) Q E s) : wpAny M A (PySem.call (.ref 101) [.ref x, .str y t] k) Q E s := h
theorem at139 {x : Addr} {y : Str} {t : Tok} {k : List (Str × Value)} {Q : Value → Shared → Prop} (h : wpAny M A (PySem.call (.ref 139) [.ref x, .str y t] k) Q E s) : wpAny M A (PySem.call (.ref 139) [.ref x, .str y t] k) Q E s := h
theorem at216 {x : Addr} {y : Str} {t : Tok} {k : List (Str × Value)} {Q : Value → Shared → Prop} (h : wpAny M A (PySem.call (.ref 216) [.str y t, .ref x] k) Q E s) : wpAny M A (PySem.call (.ref 216) [.str y t, .ref x] k) Q E s := h
theorem at_ri {value slice : PySem.Expr} {r : Addr} {i : Int} {u : Tok} {Q : Value → Shared → Prop} (h : wpAny M A (subscriptTail value slice (.ref r) (.int i u)) Q E s) : wpAny M A (subscriptTail value slice (.ref r) (.int i u)) Q E s := h
theorem at_ri0 {value slice : PySem.Expr} {r : Addr} {u : Tok} {Q : Value → Shared → Prop} (h : wpAny M A (subscriptTail value slice (.ref r) (.int 0 u)) Q E s) : wpAny M A (subscriptTail value slice (.ref r) (.int 0 u)) Q E s := h
theorem at_ri1 {value slice : PySem.Expr} {r : Addr} {u : Tok} {Q : Value → Shared → Prop} (h : wpAny M A (subscriptTail value slice (.ref r) (.int 1 u)) Q E s) : wpAny M A (subscriptTail value slice (.ref r) (.int 1 u)) Q E s := h
theorem at_si {value slice : PySem.Expr} {x : Str} {t : Tok} {i : Int} {u : Tok} {Q : Value → Shared → Prop} (h : wpAny M A (subscriptTail value slice (.str x t) (.int i u)) Q E s) : wpAny M A (subscriptTail value slice (.str x t) (.int i u)) Q E s := h
theorem atMeth (n : Str) {v : Value} {pl : Sem Bool} {Q : Value × List Value → Shared → Prop} (h : wpAny M A (getMethod v n pl) Q E s) : wpAny M A (getMethod v n pl) Q E s := h
theorem atN (n : Str) {pos : Pos} {env : Env} {Q : Value → Shared → Prop} (h : wpAny M A (eval (.Name n pos) env) Q E s) : wpAny M A (eval (.Name n pos) env) Q E s := h
end
theorem tupK {g h : Heap} {L a : Addr} {l : Array Value} {m : Str → Option Value} (x : IsTup g a l) (F : Fr g L h m) : IsTup h a l := IsTup.keeps x F.keep
theorem listK {g h : Heap} {L l : Addr} {news : List (Addr × Obj)} {o : Obj} {vs : Array Value} {n : Nat} (N : News g L h news) (hm : (l, o) ∈ news) (hc : o.cls = .type "list") (hd : o.data = .seq vs n) : h.IsList l vs := ⟨_, News.get N hm, hc, _, hd⟩

section
variable {prog : Program} {w : World} {A : Around} {h₀ : Heap} {L : Addr} {m : Str → Option Value} {env : Env} {E : Value → Shared → Prop} {s : Shared} {ct elt iter : PySem.Expr} {x : Str} {px : Pos} {scope : Scope} {cl : List (Str × Addr)} {pos : Pos} {Q : Value → Shared → Prop}
theorem lcT (F₀ : Fr h₀ L s.heap m) (hclos : closureFor scope env = pure cl) (hcell : ∀ y ∈ scope.names, y.2 ≠ .cell) (hkind : scope.kind = .function)
    (hnames : ∀ y ∈ scope.names, y.2 = .local → scope.names.lookup y.1 = some .local) (hx : scope.names.lookup x = some .local) (hs : ∀ x, foldedSetIterable iter env x = pure x)
    (h : wpAny (model prog w) A (eval iter env) (LCt.CompSrcT prog w A h₀ L m env ct elt x scope cl (fun s₂ => LCg.FinE h₀ L m s₂ Q)) E s) :
    wpAny (model prog w) A (eval (.ListComp elt [⟨.Name x px, iter, [ct], 0⟩] scope pos) env) Q E s := LCt.ListComp_T F₀ hclos hcell hkind hnames hx h hs
theorem lcU (F₀ : Fr h₀ L s.heap m) (hclos : closureFor scope env = pure cl) (hcell : ∀ y ∈ scope.names, y.2 ≠ .cell) (hkind : scope.kind = .function)
    (hnames : ∀ y ∈ scope.names, y.2 = .local → scope.names.lookup y.1 = some .local) (hx : scope.names.lookup x = some .local) (hs : ∀ x, foldedSetIterable iter env x = pure x)
    (h : wpAny (model prog w) A (eval iter env) (LCg.CompSrc prog w A h₀ L m env elt x scope cl (fun s₂ => LCg.FinE h₀ L m s₂ Q)) E s) :
    wpAny (model prog w) A (eval (.ListComp elt [⟨.Name x px, iter, [], 0⟩] scope pos) env) Q E s := LCg.ListComp_U F₀ hclos hcell hkind hnames hx h hs
theorem itemT {value slice : PySem.Expr} {t : Addr} {l : List Value} {k : Int} {u : Tok} {j : Nat} {x : Value} (ht : IsTup s.heap t l.toArray)
    (hlo : -(2 ^ 63) ≤ k) (hhi : k < 2 ^ 63) (hj : seqIndex? k l.length = some j) (hx : l[j]? = some x)
    (hs : subscripted slice false (.ref t) (.int k u) = operate [.ref t, .int k u] (getItem (.ref t) (.int k u))) (h : Q x s) :
    wpAny (model prog w) A (subscriptTail value slice (.ref t) (.int k u)) Q E s := item_tupleT ht hlo hhi hj hx h hs
end


end
end
section
open PySem PySem.Spec PySem.Calls PySem.W PyProof.Rows
set_option maxRecDepth 100000
local macro_rules | `(tactic| kct_strs) => `(tactic| (exact rfl; exact rfl; assumption; k_asm; k_asm; k_asm; k_asm; k_asm; k_is; k_is; ktr_room))
local macro_rules | `(tactic| kbo_bools) => `(tactic| first | exact BindsTo.of_eq rfl | exact binds_K (by k_in) rfl (by k_is) rfl rfl rfl)
local macro_rules | `(tactic| ktr_enter) => `(tactic| first
  | (apply Mine.code_M; kct_strs; kbo_bools; decide; exact locs rfl; exact rfl; exact rfl; exact rfl; k_whole)
  | (apply Mine.code_MC; kct_strs; kbo_bools; exact rfl; decide +kernel; exact rfl; exact rfl; exact rfl; k_whole)
  | (apply Mine.code_Mmore; kct_strs; exact rfl; exact fun _ => rfl; exact fun _ => locs rfl; exact rfl; exact rfl; exact rfl; decide; k_whole))
local macro_rules | `(tactic| kba_ints) => `(tactic| first | with_reducible assumption | (apply Nat.lt_trans; with_reducible assumption; kba_ints))
local macro_rules | `(tactic| lsm_bools) => `(tactic| ((try dsimp only); first | (apply Nat.ne_of_lt; kba_ints) | (apply Nat.ne_of_gt; kba_ints) | omega))
section
local macro_rules | `(tactic| o_reads) => `(tactic| lia)

-- part C1
section
theorem fresh_C1 : True := by w_top off; trivial
local macro_rules | `(tactic| walk_at "zz9") => `(tactic| fail)
local macro_rules | `(tactic| walk_at "zz9") => `(tactic| fail)
local macro_rules | `(tactic| walk_at "zz9") => `(tactic| fail)
/-- a text of two signs -/
noncomputable def txt (a b : Nat) : Str := Str.mk #[97 + a, 97 + b]
/-- the law's row of letters -/
noncomputable def abc : Str := Str.ofString "abcdefghijk"
theorem charAt_txt0 (a b : Nat) : Txt.charAt (txt a b) 0 = some (97 + a) := rfl
theorem charAt_txt1 (a b : Nat) : Txt.charAt (txt a b) 1 = some (97 + b) := rfl
theorem charAt_abc : ∀ x : Nat, x < 11 → Txt.charAt (Str.ofString "abcdefghijk") (x : Int) = some (97 + x) := by decide +kernel

section
variable {prog : Program} {w : World} {A : Around} {E : Value → Shared → Prop} {s : Shared} {value slice : PySem.Expr} {x : Str} {t u : Tok} {i : Int} {c : Nat} {Q : Value → Shared → Prop}
theorem item_c (h0 : 0 ≤ i) (h1 : i < 100) (hc : Txt.charAt x i = some c) (h : Q (.str ⟨#[c]⟩ s.toks) { s with toks := s.toks + 1 })
    (hs : subscripted slice false (.str x t) (.int i u) = operate [.str x t, .int i u] (getItem (.str x t) (.int i u)) := by with_unfolding_all rfl)
    (ht : ∀ r, letTemporaryGo value (.str x t) r = pure () := by intro _; with_unfolding_all rfl) :
    wpAny (model prog w) A (subscriptTail value slice (.str x t) (.int i u)) Q E s := by
  refine tail_of_ItemOn (SB.item (fitsSsize_of (N := 9223372036854775808) (by omega) (by omega) (Int.le_refl _)) (by rw [hc]; rfl) ?_) hs ht
  unfold Txt.item
  rw [hc]; exact h
theorem item_abc {x : Nat} (hx : x < 11) (h : Q (.str ⟨#[97 + x]⟩ s.toks) { s with toks := s.toks + 1 })
    (hs : subscripted slice false (.str (Str.ofString "abcdefghijk") t) (.int (x : Int) u) = operate [.str (Str.ofString "abcdefghijk") t, .int (x : Int) u] (getItem (.str (Str.ofString "abcdefghijk") t) (.int (x : Int) u)) := by with_unfolding_all rfl)
    (ht : ∀ r, letTemporaryGo value (.str (Str.ofString "abcdefghijk") t) r = pure () := by intro _; with_unfolding_all rfl) :
    wpAny (model prog w) A (subscriptTail value slice (.str (Str.ofString "abcdefghijk") t) (.int (x : Int) u)) Q E s :=
  item_c (by omega) (by omega) (charAt_abc x hx) h hs ht
theorem le_one {a b : Nat} (h : Q (.bool (decide (a ≤ b))) s) : wpAny (model prog w) A (compareOp .LtE (.str ⟨#[a]⟩ t) (.str ⟨#[b]⟩ u)) Q E s := by
  refine P.le_str ?_
  have e : (!decide ((⟨#[b]⟩ : Str).cps.toList < (⟨#[a]⟩ : Str).cps.toList)) = decide (a ≤ b) := by
    by_cases h : a ≤ b
    · have q : ¬ ([b] < [a]) := by rw [List.cons_lt_cons_iff]; simp; omega
      rw [decide_eq_true h]; simp only [q, decide_false, Bool.not_false]
    · have q : ([b] < [a]) := by rw [List.cons_lt_cons_iff]; left; omega
      rw [decide_eq_false h]; simp only [q, decide_true, Bool.not_true]
  rw [e]; exact h
end

section
variable {w : World} {p : Program} {loose : List Str} {mean : ExcName → Option Value} {mg mb : Str → Option Value}
    {dp un : Nat} {gd : Option (List Code)} {cn : Str} {cs : Scope} {a : Addr} {ccd : Value} {cl : List (Str × Addr)} {outer : List Env} {A₀ : Around} {base h₀ : Heap} {L : Addr} {m : Str → Option Value} {s : Shared}
    {Q E : Value → Shared → Prop}

local macro_rules | `(tactic| walk_at "subscriptTail") => `(tactic| ((with_reducible apply Mine.at_si); (first | (refine Mine.item_c (by omega) (by omega) (by first | exact charAt_txt0 _ _ | exact charAt_txt1 _ _) ?_) | (refine Mine.item_abc (by omega) ?_)); (try dsimp only)))
local macro_rules | `(tactic| walk_at "compareOp LtE str str") => `(tactic| ((refine Mine.le_one ?_); (try dsimp only)))

set_option maxHeartbeats 8000000 in
theorem fits_spec (B : Below A₀ base outer h₀) (F : Fr h₀ L s.heap m) (X : (hd.heap_39 w.params).In h₀) (T : Top p loose mean mg mb h₀) (hk : cs.kind = .function)
    (hdp : dp < 900) (hun : un < 9000)
    {i j : Nat} {t t1 t2 : Tok} {x y : Nat} {l : Addr} (hi : i < 5) (hj : j < 5) (hx : x < 11) (hy : y < 11)
    (hl : s.heap.IsList l #[.int x t1, .int y t2])
    (h : ∀ h' tk', (∀ b o, s.heap.get? b = some o → h'.get? b = some o) → Q (.bool (decide (i ≤ x) && decide (j ≤ y))) { s with heap := h', toks := tk' }) :
    wpAny (model PySem.Challenge.rw_ph0161_01.row.prog w) (ktrTop dp un gd cn cs L a ccd cl outer) (call (.ref 216) [.str (txt i j) t, .ref l]) Q E s := by
  have N : News h₀ L s.heap [] := News.nil
  revert X; k_fill; intro X
  refine wpAny_call ?_
  k_dflt ktr_enter
  intro g' L' h' G' F' N' B' X' T'
  obtain hl' : g'.IsList l #[.int x t1, .int y t2] := hl.at fun o e => G'.nil _ o e
  (try dsimp only); (try k_fold)
  k_steps
  all_goals (try dsimp only); all_goals (try k_unfold); all_goals (try dsimp only)
  · rename_i q
    have e : (decide (i ≤ x) && decide (j ≤ y)) = decide (97 + j ≤ 97 + y) := by
      rw [decide_eq_true (show i ≤ x by omega), Bool.true_and]; exact decide_eq_decide.mpr (by omega)
    rw [e] at h
    exact h _ _ fun b o e => F'.keep b o (G'.nil b o e)
  · rename_i q
    have e : (decide (i ≤ x) && decide (j ≤ y)) = decide (97 + i ≤ 97 + x) := by
      rw [decide_eq_false (show ¬ i ≤ x by omega), Bool.false_and, decide_eq_false q]
    rw [e] at h
    exact h _ _ fun b o e => F'.keep b o (G'.nil b o e)
end

end

-- part Srx
section

open PySem.Builtin PySem.Builtin.Re

theorem slot_search : Slot "re.Pattern" "search" "re.Pattern.search" :=
  .of (owner := "re.Pattern") (n := "search") (by rw [typeLookup_type, builtinLookup_eq_fast]; kernel_rfl) (by decide +kernel) (by decide +kernel) (by decide +kernel)
    (by first | exact .inl (by decide +kernel) | exact .inr (by decide +kernel)) (by rw [isSubtype_type]; kernel_rfl)
theorem type_search : typeOf (.builtin "re.Pattern.search") = pure (.type "method_descriptor") := by show builtinType _ = _; rw [builtinType_eq_fast]; kernel_rfl
theorem entry_search : entryFor table "re.Pattern.search" = some Builtin.«re.Pattern.search» := entryFor_of_tree (by kernel_rfl)
theorem args_search (a b : Value) : argsOk "re.Pattern.search" ⟨[a, b], []⟩ := by unfold argsOk; kernel_rfl
theorem plain_pattern : PlainAttrs "re.Pattern" :=
  ⟨⟨"object.__getattribute__", by rw [typeLookup_type, builtinLookup_eq_fast]; kernel_rfl, by decide +kernel⟩, by rw [typeLookup_type, builtinLookup_eq_fast]; kernel_rfl⟩

/-- the two patterns' codes -/
noncomputable def codeName : Array Value := #[Value.int 14 0, Value.int 10 0, Value.int 4 0, Value.int 1 0, Value.int 1 0, Value.int 22 0, Value.int 0 0, Value.int 31 0, Value.int 16 0, Value.int 127 0, Value.int 0 0, Value.int 13 0, Value.int 7 0, Value.int 22 0, Value.int 0 0, Value.int 31 0, Value.int 16 0, Value.int 127 0, Value.int 0 0, Value.int 1 0]
noncomputable def codeValue : Array Value := #[Value.int 14 0, Value.int 14 0, Value.int 4 0, Value.int 1 0, Value.int 1 0, Value.int 9 0, Value.int 4294966783 0, Value.int 0 0, Value.int 0 0, Value.int 2147483648 0, Value.int 0 0, Value.int 0 0, Value.int 0 0, Value.int 0 0, Value.int 0 0, Value.int 13 0, Value.int 11 0, Value.int 9 0, Value.int 4294966783 0, Value.int 0 0, Value.int 0 0, Value.int 2147483648 0, Value.int 0 0, Value.int 0 0, Value.int 0 0, Value.int 0 0, Value.int 0 0, Value.int 1 0]
noncomputable def failedIn (m : Sre.M) : Bool := match m.outcome with | some .failed => true | _ => false
/-- the search is at its end within one turn, and finds nothing -/
noncomputable def noHit (code text : Array Nat) : Bool := failedIn ((Sre.forSearch code text 0 0 text.size false).runFor 4)
theorem hit_value : ∀ i < 5, ∀ j < 5, noHit ((codeValue.map reRawOf).map (·.toNat)) #[97 + i, 97 + j] = true := by decide +kernel
/-- the six spellings that the law uses, by their signs -/
noncomputable def spells : List (Array Nat) := [#[97], #[65], #[97, 98], #[97, 66], #[65, 98], #[65, 66]]
theorem hit_name : ∀ x ∈ spells, noHit ((codeName.map reRawOf).map (·.toNat)) x = true := by decide +kernel
theorem noHit_isSome {m : Sre.M} (h : failedIn m = true) : m.outcome = some .failed := by
  unfold failedIn at h
  split at h
  · assumption
  · cases h

section
variable {M : Model} {A : Around} {E : Value → Shared → Prop} {s : Shared}
theorem forIn_rules {α : Type} (f : α → PUnit → Sem (ForInStep PUnit)) (hf : ∀ a, (∃ t, f a ⟨⟩ = (do rule t; pure (.yield ⟨⟩))) ∨ f a ⟨⟩ = pure (.yield ⟨⟩)) {Q : PUnit → Shared → Prop} (h : Q ⟨⟩ s) :
    ∀ l : List α, wpAny M A (forIn l ⟨⟩ f) Q E s
  | [] => by rw [List.forIn_nil]; exact wpAny_pure h
  | a :: r => by
    rw [List.forIn_cons]
    rcases hf a with ⟨t, e⟩ | e
    · rw [e]; exact wpAny_bind (wpAny_bind (wpAny_rule (wpAny_pure (forIn_rules f hf h r))))
    · rw [e]; exact wpAny_bind (wpAny_pure (forIn_rules f hf h r))
theorem drive_one {n : Nat} {m : Sre.M} : reDrive (n + 1) m = (let m := m.runFor reTurnSteps; if m.outcome.isSome then pure m else do rule "sre.turn"; reDrive n m) := rfl
theorem answer_none {t : ReTarget} {m : Sre.M} {Q : Fin → Shared → Prop} (hm : failedIn (m.runFor 4) = true) (h : Q (.done (.ret .none)) s) : wpAny M A (reAnswer t m) Q E s := by
  have ho := noHit_isSome hm
  unfold reAnswer reRunToEnd
  rw [show (2 : Nat) ^ 64 = (2 ^ 64 - 1) + 1 from rfl, drive_one]
  dsimp only
  rw [show reTurnSteps = 4 from rfl, ho]
  simp only [Option.isSome_some, if_true]
  refine wpAny_bind (wpAny_bind (wpAny_pure ?_))
  refine wpAny_bind (forIn_rules _ (fun i => ?_) ?_ _)
  · by_cases hi : (m.runFor 4).seen.has i = true
    · left; exact ⟨Sre.names.getD i "", by rw [if_pos hi]⟩
    · right; rw [if_neg hi]
  · rw [ho]
    exact wpAny_pure (wpAny_pure h)

theorem text_eq {x : Str} {t : Tok} : reTextOf (.str x t) = pure (x.cps, 0) := rfl
theorem named_eq {v : Value} : reNamed "re.Pattern.search" "search" ["string", "pos", "endpos"] 1 [v] [] = pure [some v, none, none] := by with_unfolding_all rfl
theorem clip_hi (n : Nat) (hn : n < 2 ^ 40) : min ((2 : Int) ^ 63 - 1).toNat n = n := by
  have : ((2 : Int) ^ 63 - 1).toNat = 9223372036854775807 := by decide
  rw [this]; omega

theorem noHit_of {code text : Array Nat} (h : noHit code text = true) : failedIn ((Sre.forSearch code text 0 0 text.size false).runFor 4) = true := h
theorem search_none {P C : Addr} {oP oC : Obj} {fs items : Array Value} {n : Nat} {x : Str} {t : Tok} {Q : Value → Shared → Prop} {prog : Program} {w : World}
    (hP : s.heap.get? P = some oP) (hPc : oP.cls = .type "re.Pattern") (hPd : oP.data = .fields fs) (hC : s.heap.get? C = some oC) (hCd : oC.data = .seq items n)
    (h5 : fs.getD 5 .none = .ref C) (h6 : fs.getD 6 .none = .int 0 0) (h2 : reRawNat (fs.getD 2 .none) = 0) (hx : x.cps.size < 2 ^ 40)
    (hit : noHit ((items.map reRawOf).map (·.toNat)) x.cps = true) (h : Q .none s) :
    wpAny (model prog w) A (call (.builtin "re.Pattern.search") [.ref P, .str x t]) Q E s := by
  refine wpAny_call (codeAny_call_builtin slot_search.plain entry_search (slot_search.check _ _ _ _ _ _ _ _ ⟨oP, hP, hPc⟩ (args_search _ _) ?_))
  show wpAny _ _ (reTarget "re.Pattern.search" "search" ⟨[.ref P, .str x t], []⟩ >>= fun t => reAnswer t (Sre.forSearch t.code t.text t.groups t.pos t.lim false)) _ _ s
  refine wpAny_bind ?_
  unfold reTarget
  dsimp only
  rw [named_eq]
  refine wpAny_bind (wpAny_pure ?_)
  dsimp only
  refine wpAny_bind (wpAny_pure ?_)
  refine wpAny_bind (wpAny_pure ?_)
  refine wpAny_bind (m := fieldsOf (.ref P)) (wpAny_bind (wpAny_load hP ?_))
  rw [hPd]
  refine wpAny_pure ?_
  rw [text_eq, h6, h5, h2]
  refine wpAny_bind (wpAny_pure ?_)
  dsimp only
  rw [if_neg (show ¬ ((reRawNat (Value.int 0 0) == 0 && (0 : Nat) == 1) = true) by decide), if_neg (show ¬ ((reRawNat (Value.int 0 0) == 1 && (0 : Nat) == 0) = true) by decide)]
  refine wpAny_bind (wpAny_of_eq (show reNoCollectionInside (Value.str x t) 0 = pure () from rfl) ?_)
  refine wpAny_bind (m := reRawItems (.ref C)) (wpAny_bind (m := seqItems? (.ref C)) (wpAny_bind (wpAny_load hC ?_)))
  rw [hCd]
  refine wpAny_pure (wpAny_pure (wpAny_pure ?_))
  dsimp only
  rw [clip_hi _ hx, show Min.min (Int.toNat 0) x.cps.size = 0 from Nat.zero_min _]
  exact answer_none (t := { pattern := Value.ref P, string := Value.str x t, code := (items.map reRawOf).map (·.toNat), text := x.cps, kind := 0, groups := 0, pos := 0, lim := x.cps.size }) (noHit_of hit) h
end

end

-- part C2
section
theorem fresh_C2 : True := by w_top off; trivial
local macro_rules | `(tactic| walk_at "zz9") => `(tactic| fail)
local macro_rules | `(tactic| walk_at "zz9") => `(tactic| fail)
local macro_rules | `(tactic| walk_at "zz9") => `(tactic| fail)
local macro_rules | `(tactic| walk_at "zz9") => `(tactic| fail)
section
variable {prog : Program} {w : World} {A : Around} {E : Value → Shared → Prop} {s : Shared} {K : Frag} {h₀ : Heap} {L P C : Addr} {m : Str → Option Value} {fs items : Array Value} {n : Nat} {sl sl2 : Array (Option Value)} {oc : Value} {od : Option Addr}
theorem getm_pat {pl : Sem Bool} {Q : Value × List Value → Shared → Prop} (F : Fr h₀ L s.heap m) (X₀ : K.In h₀) (hP : K.lookup P = some ⟨.type "re.Pattern", none, .fields fs, sl⟩) (h : Q (.builtin "re.Pattern.search", [.ref P]) s) :
    wpAny (model prog w) A (getMethod (.ref P) "search" pl) Q E s :=
  getMethod_builtin ⟨_, F.keep _ _ (X₀ _ _ hP), rfl⟩ plain_pattern slot_search type_search (fun a e => by cases e; exact ⟨_, F.keep _ _ (X₀ _ _ hP), rfl⟩) h
theorem search_K {x : Str} {t : Tok} {Q : Value → Shared → Prop} (F : Fr h₀ L s.heap m) (X₀ : K.In h₀) (hP : K.lookup P = some ⟨.type "re.Pattern", none, .fields fs, sl⟩) (h5 : fs.getD 5 .none = .ref C) (hC : K.lookup C = some ⟨oc, od, .seq items n, sl2⟩)
    (h6 : fs.getD 6 .none = .int 0 0) (h2 : PySem.Builtin.Re.reRawNat (fs.getD 2 .none) = 0) (hx : x.cps.size < 2 ^ 40) (hit : noHit ((items.map PySem.Builtin.Re.reRawOf).map (·.toNat)) x.cps = true) (h : Q .none s) :
    wpAny (model prog w) A (call (.builtin "re.Pattern.search") [.ref P, .str x t]) Q E s :=
  search_none (F.keep _ _ (X₀ _ _ hP)) rfl rfl (F.keep _ _ (X₀ _ _ hC)) rfl h5 h6 h2 hx hit h
end
section
variable {w : World} {p : Program} {loose : List Str} {mean : ExcName → Option Value} {mg mb : Str → Option Value}
    {dp un : Nat} {gd : Option (List Code)} {cn : Str} {cs : Scope} {a : Addr} {ccd : Value} {cl : List (Str × Addr)} {outer : List Env} {A₀ : Around} {base h₀ : Heap} {L : Addr} {m : Str → Option Value} {s : Shared}
    {Q E : Value → Shared → Prop}

local macro_rules | `(tactic| walk_at "getMethod ref") => `(tactic| (k_here; (with_reducible apply Mine.atMeth (Str.ofString "search")); k_dflt (apply Mine.getm_pat; k_asm; k_asm; k_is; k_whole)))
local macro_rules | `(tactic| walk_at "call builtin:re.Pattern.search") => `(tactic| (k_here; k_dflt (apply Mine.search_K; k_asm; k_asm; k_is; rfl; k_is; rfl; rfl; assumption; assumption; k_whole)))

set_option maxHeartbeats 8000000 in
theorem conv_value (B : Below A₀ base outer h₀) (F : Fr h₀ L s.heap m) (X : (hd.heap_39 w.params).In h₀) (T : Top p loose mean mg mb h₀) (hk : cs.kind = .function)
    (hdp : dp < 950) {x : Str} {t : Tok} {self : Addr} (hx : x.cps.size < 2 ^ 40) (hit : noHit ((codeValue.map PySem.Builtin.Re.reRawOf).map (·.toNat)) x.cps = true)
    (h : ∀ h' tk', (∀ b o, s.heap.get? b = some o → h'.get? b = some o) → Q (.str x t) { s with heap := h', toks := tk' }) :
    wpAny (model PySem.Challenge.rw_ph0161_01.row.prog w) (ktrTop dp un gd cn cs L a ccd cl outer) (call (.ref 101) [.ref self, .str x t] [(Str.ofString "name", .bool false)]) Q E s := by
  have N : News h₀ L s.heap [] := News.nil
  revert X; k_fill; intro X
  refine wpAny_call ?_
  k_dflt ktr_enter
  intro g' L' h' G' F' N' B' X' T'
  (try dsimp only); (try k_fold)
  k_steps
  all_goals (try dsimp only); all_goals (try k_unfold); all_goals (try dsimp only)
  exact h _ _ fun b o e => Fr.keep (by assumption) b o (G'.nil b o e)
set_option maxHeartbeats 8000000 in
theorem conv_name (B : Below A₀ base outer h₀) (F : Fr h₀ L s.heap m) (X : (hd.heap_39 w.params).In h₀) (T : Top p loose mean mg mb h₀) (hk : cs.kind = .function)
    (hdp : dp < 950) {x : Str} {t : Tok} {self : Addr} (hx : x.cps.size < 2 ^ 40) (hit : noHit ((codeName.map PySem.Builtin.Re.reRawOf).map (·.toNat)) x.cps = true)
    (h : ∀ h' tk', (∀ b o, s.heap.get? b = some o → h'.get? b = some o) → Q (.str x t) { s with heap := h', toks := tk' }) :
    wpAny (model PySem.Challenge.rw_ph0161_01.row.prog w) (ktrTop dp un gd cn cs L a ccd cl outer) (call (.ref 101) [.ref self, .str x t] [(Str.ofString "name", .bool true)]) Q E s := by
  have N : News h₀ L s.heap [] := News.nil
  revert X; k_fill; intro X
  refine wpAny_call ?_
  k_dflt ktr_enter
  intro g' L' h' G' F' N' B' X' T'
  (try dsimp only); (try k_fold)
  k_steps
  all_goals (try dsimp only); all_goals (try k_unfold); all_goals (try dsimp only)
  exact h _ _ fun b o e => Fr.keep (by assumption) b o (G'.nil b o e)
theorem conv_valueK {news : List (Addr × Obj)} (B : Below A₀ base outer h₀) (F : Fr h₀ L s.heap m) (X : (hd.heap_39 w.params).In h₀) (N : News h₀ L s.heap news) (T : Top p loose mean mg mb h₀) (hk : cs.kind = .function)
    (hdp : dp < 950) {x : Str} {t : Tok} {self : Addr} (hx : x.cps.size < 2 ^ 40) (hit : noHit ((codeValue.map PySem.Builtin.Re.reRawOf).map (·.toNat)) x.cps = true)
    (h : ∀ h' tk', Fr h₀ L h' m → News h₀ L h' news → Q (.str x t) { s with heap := h', toks := tk' }) :
    wpAny (model PySem.Challenge.rw_ph0161_01.row.prog w) (ktrTop dp un gd cn cs L a ccd cl outer) (call (.ref 101) [.ref self, .str x t] [(Str.ofString "name", .bool false)]) Q E s :=
  conv_value B F X T hk hdp hx hit fun h' tk' kp => h h' tk' (F.keeps kp) (N.grown kp)
theorem conv_nameK {news : List (Addr × Obj)} (B : Below A₀ base outer h₀) (F : Fr h₀ L s.heap m) (X : (hd.heap_39 w.params).In h₀) (N : News h₀ L s.heap news) (T : Top p loose mean mg mb h₀) (hk : cs.kind = .function)
    (hdp : dp < 950) {x : Str} {t : Tok} {self : Addr} (hx : x.cps.size < 2 ^ 40) (hit : noHit ((codeName.map PySem.Builtin.Re.reRawOf).map (·.toNat)) x.cps = true)
    (h : ∀ h' tk', Fr h₀ L h' m → News h₀ L h' news → Q (.str x t) { s with heap := h', toks := tk' }) :
    wpAny (model PySem.Challenge.rw_ph0161_01.row.prog w) (ktrTop dp un gd cn cs L a ccd cl outer) (call (.ref 101) [.ref self, .str x t] [(Str.ofString "name", .bool true)]) Q E s :=
  conv_name B F X T hk hdp hx hit fun h' tk' kp => h h' tk' (F.keeps kp) (N.grown kp)
end

end

-- part C3
section
theorem fresh_C3 : True := by w_top off; trivial
local macro_rules | `(tactic| walk_at "zz9") => `(tactic| fail)
local macro_rules | `(tactic| walk_at "zz9") => `(tactic| fail)
local macro_rules | `(tactic| walk_at "zz9") => `(tactic| fail)
open LCg LCt
/-- a row of the table: a tuple of two texts -/
def RowAt (g : Heap) (r : Str × Str) (v : Value) : Prop := ∃ a t u, v = .ref a ∧ IsTup g a #[.str r.1 t, .str r.2 u] ∧ r.1.length ≤ 100
inductive RowsAt (g : Heap) : List Value → List (Str × Str) → Prop
  | nil : RowsAt g [] []
  | cons {v : Value} {vs : List Value} {r : Str × Str} {rs : List (Str × Str)} : RowAt g r v → RowsAt g vs rs → RowsAt g (v :: vs) (r :: rs)
theorem RowAt.keeps {g h : Heap} {r : Str × Str} {v : Value} (x : RowAt g r v) (k : ∀ b o, g.get? b = some o → h.get? b = some o) : RowAt h r v :=
  by obtain ⟨a, t, u, e, i, l⟩ := x; exact ⟨a, t, u, e, IsTup.keeps i k, l⟩
theorem RowsAt.keeps {g h : Heap} {vs : List Value} {rs : List (Str × Str)} (x : RowsAt g vs rs) (k : ∀ b o, g.get? b = some o → h.get? b = some o) : RowsAt h vs rs := by
  induction x with
  | nil => exact .nil
  | cons r _ ih => exact .cons (r.keeps k) ih
theorem RowsAt.length {g : Heap} {vs : List Value} {rs : List (Str × Str)} (x : RowsAt g vs rs) : vs.length = rs.length := by
  induction x with
  | nil => rfl
  | cons _ _ ih => simp [ih]
theorem RowsAt.get {g : Heap} {vs : List Value} {rs : List (Str × Str)} (x : RowsAt g vs rs) : ∀ (i : Nat) (v : Value), vs[i]? = some v → ∃ r, rs[i]? = some r ∧ RowAt g r v := by
  induction x with
  | nil => intro i v h; simp at h
  | cons r _ ih =>
    intro i v h
    cases i with
    | zero => simp at h; subst h; exact ⟨_, rfl, r⟩
    | succ i => simp at h; simpa using ih i v h
theorem RowsAt.snoc {g : Heap} {vs : List Value} {rs : List (Str × Str)} {v : Value} {r : Str × Str} (x : RowsAt g vs rs) (y : RowAt g r v) : RowsAt g (vs ++ [v]) (rs ++ [r]) := by
  induction x with
  | nil => exact .cons y .nil
  | cons r _ ih => exact .cons r ih

/-- a Headers object: its dict, its list of rows -/
structure TableAt (h : Heap) (P : Params) (x l : Addr) (rows : List (Str × Str)) : Prop where
  at_ : ∃ dx tk vs n, h.get? x = some (instObj 200 dx) ∧ h.get? dx = some (dictOf [⟨PyData.keyHash P (Str.ofString "_headers"), .str (Str.ofString "_headers") tk, .ref l⟩] 1) ∧ h.get? l = some (listOf (vs : List Value).toArray n) ∧ RowsAt h vs rows ∧ rows.length ≤ 1000

theorem inst_base {g h : Heap} {L x C : Addr} {m : Str → Option Value} {ox : Obj} {od : Option Obj} (I : InstAt g x ox C od) (F : Fr g L h m) : InstAt h x ox C od := by
  obtain ⟨a, b, c, d⟩ := I
  refine ⟨F.keep _ _ a, b, c, ?_⟩
  cases ox with | mk cls dict data sl =>
  cases dict <;> cases od <;> first | exact d | exact F.keep _ _ d


section
variable {prog : Program} {w : World} {A : Around} {h₀ : Heap} {L : Addr} {m : Str → Option Value} {env : Env} {ct elt : Expr} {x : Str} {scope : Scope} {cl : List (Str × Addr)} {s : Shared} {S : List (Addr × Obj) → Prop} {P : Nat → Value → Prop} {Fin : List Value → List (Addr × Obj) → Prop} {news : List (Addr × Obj)}
def TxEl (b : Bool) (k : Bool) (x : Str) (news news' : List (Addr × Obj)) (y : Value) : Prop := news' = news ∧ b = k ∧ (k = true → ∃ t, y = .str x t)
/-- a comprehension with a test, its items texts; nothing stays but the list -/
theorem rest_texts {α : Type} {n : Nat} {ks : List α} (It : α → Value → Prop) (keep : α → Bool) (val : α → Str) (hks : ks.length = n) (hP : ∀ i v, i < n → P i v → ∃ k, ks[i]? = some k ∧ It k v)
    (turn : ∀ k v I oI C oC D m₂ ys h tk (E' : Value → Shared → Prop), k ∈ ks → It k v → NsObj oC m₂ → m₂ x = some v → Fr h₀ L h m → News h₀ L h ((I, oI) :: (C, oC) :: (D, lst ys) :: news) → Off3 I C D news → ((@Ne Nat I C) ∧ (@Ne Nat I D) ∧ (@Ne Nat C D)) →
      wpAny (model prog w) A (isTrue ct (compEnvC scope cl C env) (eval ct (compEnvC scope cl C env))) (fun b s' => if b = true then wpAny (model prog w) A (eval elt (compEnvC scope cl C env)) (CompEnd h₀ L m { s with heap := h, toks := tk } I oI C oC D (lst ys) S (fun y news' => TxEl true (keep k) (val k) news news' y)) E' s'
        else CompEnd h₀ L m { s with heap := h, toks := tk } I oI C oC D (lst ys) S (fun y news' => TxEl false (keep k) (val k) news news' y) Value.none s') E' { s with heap := h, toks := tk })
    (fin : ∀ ys, StrsAre ys ((ks.filter keep).map val) → Fin ys news) : CompRestT prog w A h₀ L m env ct elt x scope cl s S P Fin n 0 [] news := by
  have key : ∀ (j i : Nat) (ys : List Value), i + j = n → StrsAre ys (((ks.take i).filter keep).map val) → CompRestT prog w A h₀ L m env ct elt x scope cl s S P Fin j i ys news := by
    intro j
    induction j with
    | zero =>
      intro i ys hi hy
      have e : i = ks.length := by omega
      subst e
      rw [List.take_length] at hy
      exact CompRestT.zero (fin ys hy)
    | succ j ih =>
      intro i ys hi hy
      refine CompRestT.succ ?_
      intro v I oI C oC D m₂ h tk E' hv hC hx F N off ne
      obtain ⟨k, hk, hv'⟩ := hP i v (by omega) hv
      have hs : ∀ b, keep k = b → ((ks.take (i + 1)).filter keep).map val = (((ks.take i).filter keep).map val) ++ (if b = true then [val k] else []) := by
        intro b hb
        rw [List.take_add_one, hk]
        cases b <;> simp [hb]
      refine wpAny_mono (turn k v I oI C oC D m₂ ys h tk E' (List.mem_of_getElem? hk) hv' hC hx F N off ne) (fun b s₂ hq => ?_) fun _ _ e => e
      cases b with
      | true =>
        simp only [if_true] at hq ⊢
        refine wpAny_mono hq (fun y s₃ hr => ?_) fun _ _ e => e
        obtain ⟨h', tk', nw, e, F', N', off', hS, hn, hb, ht⟩ := hr
        obtain ⟨t, hy'⟩ := ht hb.symm
        rw [hn] at N' off' hS
        refine ⟨h', tk', news, e, F', N', off', hS, ?_⟩
        rw [hy']
        refine ih (i + 1) _ (by omega) ?_
        rw [hs true hb.symm]
        exact kct_snoc hy
      | false =>
        simp only [Bool.false_eq_true, if_false] at hq ⊢
        obtain ⟨h', tk', nw, e, F', N', off', hS, hn, hb, -⟩ := hq
        rw [hn] at N' off' hS
        refine ⟨h', tk', news, e, F', N', off', hS, ih (i + 1) _ (by omega) ?_⟩
        rw [hs false hb.symm]
        simpa using hy
  exact key n 0 [] (by omega) (by simp only [List.take_zero, List.filter_nil, List.map_nil]; exact .nil)
end

section
variable {w : World} {p : Program} {loose : List Str} {mean : ExcName → Option Value} {mg mb : Str → Option Value}
    {dp un : Nat} {gd : Option (List Code)} {cn : Str} {cs : Scope} {a : Addr} {ccd : Value} {cl : List (Str × Addr)} {outer : List Env} {A₀ : Around} {base h₀ : Heap} {L : Addr} {m : Str → Option Value} {s : Shared}
    {Q E : Value → Shared → Prop}

local macro_rules | `(tactic| walk_at "cv1") => `(tactic| (k_asm; k_asm; k_asm; k_asm; k_asm; rfl; ktr_room; (simp only [PySem.Str.length] at *; omega); assumption; k_whole))
local macro_rules | `(tactic| walk_at "call ref") => `(tactic| (k_here; (with_reducible apply Mine.at101); k_dflt (first | (apply Mine.conv_nameK; walk_at "cv1") | (apply Mine.conv_valueK; walk_at "cv1")); intro _ _ _ _; (try dsimp only); (try k_sweep)))
local macro_rules | `(tactic| walk_at "eval ListComp") => `(tactic| (k_here; lct_look; k_dflt (apply Mine.lcT; k_asm; with_unfolding_all rfl; decide; rfl; decide; rfl; (intro _; rfl); k_whole)))
local macro_rules | `(tactic| walk_at "subscriptTail") => `(tactic| (k_here; (with_reducible apply Mine.at_ri); k_dflt (apply Mine.itemT; (apply Mine.tupK; assumption; k_asm); decide; decide; rfl; rfl; with_unfolding_all rfl; k_whole)))
local macro_rules | `(tactic| k_inst) => `(tactic| exact Mine.inst_base (by assumption) (by k_asm))

set_option maxHeartbeats 8000000 in
theorem get_all_spec (B : Below A₀ base outer h₀) (F : Fr h₀ L s.heap m) (X : (hd.heap_39 w.params).In h₀) (T : Top p loose mean mg mb h₀) (hk : cs.kind = .function)
    (hdp : dp < 940) {x l : Addr} {rows : List (Str × Str)} {y : Str} {t : Tok} (hT : TableAt s.heap w.params x l rows) (hx : y.length ≤ 100) (hit : noHit ((codeName.map PySem.Builtin.Re.reRawOf).map (·.toNat)) (Txt.lower y).cps = true)
    (h : ∀ r h' tk' ys, (∀ b o, s.heap.get? b = some o → h'.get? b = some o) → s.heap.get? r = none → h'.get? r = some (lst ys) → StrsAre ys ((rows.filter fun r => Txt.lower r.1 == Txt.lower y).map (·.2)) → Q (.ref r) { s with heap := h', toks := tk' }) :
    wpAny (model PySem.Challenge.rw_ph0161_01.row.prog w) (ktrTop dp un gd cn cs L a ccd cl outer) (call (.ref 139) [.ref x, .str y t] []) Q E s := by
  obtain ⟨dx, tk0, vs, n, hx1, hx2, hx3, hrows, hlen⟩ := hT.at_
  have N : News h₀ L s.heap [] := News.nil
  revert X; k_fill; intro X
  refine wpAny_call ?_
  k_dflt ktr_enter
  intro g' L' h' tk' cells' G' F' N' Y' B' X' T'
  k_cells Y'
  (try simp only [List.cons_append, List.nil_append] at N')
  obtain I' : InstAt g' x (instObj 200 dx) 200 (some (dictOf [⟨PyData.keyHash w.params (Str.ofString "_headers"), .str (Str.ofString "_headers") tk0, .ref l⟩] 1)) := ⟨G'.nil _ _ hx1, rfl, rfl, G'.nil _ _ hx2⟩
  obtain hl' : g'.IsList l vs.toArray := ⟨_, G'.nil _ _ hx3, rfl, _, rfl⟩
  obtain hrows' : RowsAt g' vs rows := hrows.keeps G'.nil
  (try dsimp only); (try k_fold)
  k_steps
  refine LCt.CompSrcT.base rfl (by k_asm) (by k_asm) hl' (by have := hrows.length; rw [List.size_toArray, PySem.sizeLine_eq]; omega) ?_
  intro gg
  refine rest_texts (RowAt g') (fun r => Txt.lower r.1 == Txt.lower y) (·.2) (ks := rows) (by rw [List.size_toArray]; exact hrows.length.symm) (fun i v _ hv => hrows'.get i v (by simpa using hv)) ?_ ?_
  · intro r v I oI C oC D m₂ ys h' tk E' hr hv hC hx' F' N' off ne
    obtain ⟨a, t1, t2, rfl, hp, hln⟩ := hv
    (try dsimp only); (try k_fold)
    k_steps
    all_goals (try dsimp only)
    · rename_i q
      exact CompEnd.intro (by assumption) (by assumption) _ (fun p hp => hp) off (.inl hl') ⟨rfl, q.symm, fun _ => ⟨_, rfl⟩⟩
    · rename_i q
      exact CompEnd.intro (by assumption) (by assumption) _ (fun p hp => hp) off (.inl hl') ⟨rfl, q.symm, fun e => absurd (e.symm.trans q) (by decide)⟩
  · intro ys hys
    (try dsimp only)
    k_steps
    all_goals (try dsimp only); all_goals (try k_unfold); all_goals (try dsimp only)
    rename_i N'
    exact h _ _ _ ys (fun b o e => Fr.keep (by assumption) b o (G'.nil b o e)) (G'.fresh (News.fresh (by assumption) (.head _))) (News.get (by assumption) (.head _)) hys
end

end

-- part C4
section
theorem fresh_C4 : True := by w_top off; trivial
local macro_rules | `(tactic| walk_at "zz9") => `(tactic| fail)
local macro_rules | `(tactic| walk_at "zz9") => `(tactic| fail)
local macro_rules | `(tactic| walk_at "zz9") => `(tactic| fail)
local macro_rules | `(tactic| walk_at "zz9") => `(tactic| fail)
open LCg LCt
section
variable {w : World} {p : Program} {loose : List Str} {mean : ExcName → Option Value} {mg mb : Str → Option Value}
    {dp un : Nat} {gd : Option (List Code)} {cn : Str} {cs : Scope} {a : Addr} {ccd : Value} {cl : List (Str × Addr)} {outer : List Env} {A₀ : Around} {base h₀ : Heap} {L : Addr} {m : Str → Option Value} {s : Shared}
    {Q E : Value → Shared → Prop}
local macro_rules | `(tactic| walk_at "cv1") => `(tactic| (k_asm; k_asm; k_asm; k_asm; k_asm; rfl; ktr_room; (simp only [PySem.Str.length] at *; omega); assumption; k_whole))
local macro_rules | `(tactic| walk_at "call ref") => `(tactic| (k_here; (with_reducible apply Mine.at101); k_dflt (first | (apply Mine.conv_nameK; walk_at "cv1") | (apply Mine.conv_valueK; walk_at "cv1")); intro _ _ _ _; (try dsimp only); (try k_sweep)))
local macro_rules | `(tactic| walk_at "eval ListComp") => `(tactic| (k_here; lct_look; k_dflt (apply Mine.lcT; k_asm; with_unfolding_all rfl; decide; rfl; decide; rfl; (intro _; rfl); k_whole)))
local macro_rules | `(tactic| walk_at "subscriptTail") => `(tactic| (k_here; (with_reducible apply Mine.at_ri); k_dflt (apply Mine.itemT; (apply Mine.tupK; assumption; k_asm); decide; decide; rfl; rfl; with_unfolding_all rfl; k_whole)))
local macro_rules | `(tactic| k_inst) => `(tactic| exact Mine.inst_base (by assumption) (by k_asm))

set_option maxHeartbeats 8000000 in
theorem add_header_spec (B : Below A₀ base outer h₀) (F : Fr h₀ L s.heap m) (X : (hd.heap_39 w.params).In h₀) (T : Top p loose mean mg mb h₀) (hk : cs.kind = .function)
    (hdp : dp < 940) {x l dx : Addr} {tk0 t u : Tok} {vs : List Value} {n : Nat} {nm tx : Str} (hx1 : s.heap.get? x = some (instObj 200 dx)) (hx2 : s.heap.get? dx = some (dictOf [⟨PyData.keyHash w.params (Str.ofString "_headers"), .str (Str.ofString "_headers") tk0, .ref l⟩] 1))
    (N : News h₀ L s.heap [(l, listOf vs.toArray n)]) (hxl : x ≠ l) (hdl : dx ≠ l) (hlen : vs.length ≤ 1000)
    (hnm : nm.length ≤ 100) (htx : tx.length ≤ 100) (hit1 : noHit ((codeName.map PySem.Builtin.Re.reRawOf).map (·.toNat)) nm.cps = true) (hit2 : noHit ((codeValue.map PySem.Builtin.Re.reRawOf).map (·.toNat)) tx.cps = true)
    (h : ∀ h' tk' b t' u' n', (∀ b o, b ≠ l → s.heap.get? b = some o → h'.get? b = some o) → s.heap.get? b = none → IsTup h' b #[.str nm t', .str tx u'] → h'.get? l = some (listOf (vs ++ [Value.ref b]).toArray n') → Q .none { s with heap := h', toks := tk' }) :
    wpAny (model PySem.Challenge.rw_ph0161_01.row.prog w) (ktrTop dp un gd cn cs L a ccd cl outer) (call (.ref 197) [.ref x, .str nm t, .str tx u] []) Q E s := by
  revert X; k_fill; intro X
  refine wpAny_call ?_
  k_dflt ktr_enter
  intro D' o' g' L' h' G' hD' l1 lo' hs' fs' F' N' B' X' T'
  (try k_lt l1)
  have up := G'.up
  simp only [List.map_cons, List.map_nil, List.mem_singleton] at up
  obtain I' : InstAt g' x (instObj 200 dx) 200 (some (dictOf [⟨PyData.keyHash w.params (Str.ofString "_headers"), .str (Str.ofString "_headers") tk0, .ref l⟩] 1)) := ⟨up _ _ hx1 hxl, rfl, rfl, up _ _ hx2 hdl⟩
  (try dsimp only); (try k_fold)
  k_steps
  all_goals (try dsimp only); all_goals (try k_unfold); all_goals (try dsimp only)
  rename_i N'
  obtain ⟨q1, -, q3⟩ := N' _ (List.Mem.head _)
  obtain ⟨q4, -, -⟩ := N' _ (List.Mem.tail _ (List.Mem.tail _ (List.Mem.tail _ (List.Mem.head _))))
  dsimp only at q1 q3 q4
  refine h _ _ _ t _ (n + 1) (fun b o hb e => Fr.keep (by assumption) b o (up b o e hb)) ?_ ⟨_, q1, rfl, _, rfl⟩ ?_
  · cases q : s.heap.get? _ with
    | none => rfl
    | some o => have := up _ o q (fun z => by (have z2 : @Eq Nat _ _ := z); omega); rw [this] at q3; cases q3
  · rw [q4]; simp
end

end

-- part Lib
section
theorem fresh_Lib : True := by w_top off; trivial
local macro_rules | `(tactic| walk_at "zz9") => `(tactic| fail)
open LCg LCt
def SeenAt (h : Heap) (v : Value) (l : List Nat) : Prop := ∃ a vs, v = .ref a ∧ h.IsList a (vs : List Value).toArray ∧ IntsAre vs (l.map fun n => ((n : Nat) : Int))
theorem SeenAt.keeps {g h : Heap} {v : Value} {l : List Nat} (x : SeenAt g v l) (k : ∀ b o, g.get? b = some o → h.get? b = some o) : SeenAt h v l :=
  let ⟨a, vs, e, i, r⟩ := x; ⟨a, vs, e, i.at fun o e => k _ o e, r⟩
theorem TableAt.keeps {g h : Heap} {P : Params} {x l : Addr} {rows : List (Str × Str)} (t : TableAt g P x l rows) (k : ∀ b o, g.get? b = some o → h.get? b = some o) : TableAt h P x l rows := by
  obtain ⟨dx, tk, vs, n, a, b, c, d, e⟩ := t.at_
  exact ⟨⟨dx, tk, vs, n, k _ _ a, k _ _ b, k _ _ c, d.keeps k, e⟩⟩
theorem tabK {g h : Heap} {L x l : Addr} {P : Params} {rows : List (Str × Str)} {m : Str → Option Value} (t : TableAt g P x l rows) (F : Fr g L h m) : TableAt h P x l rows := TableAt.keeps t F.keep
theorem Grown.hide {news : List (Addr × Obj)} {h g : Heap} {L' : Addr} (G : Grown news h g L') : ∀ b o, (hideAll h (news.map (·.1))).get? b = some o → g.get? b = some o := fun b o e =>
  G.up b o (of_hideAll _ e) fun q => by rw [hideAll_none _ q] at e; cases e

def NotNs (o : Obj) : Prop := ∀ es n, o.data ≠ .dict es n
def KeepBut (adr : List Addr) (h h' : Heap) : Prop := ∀ b o, b ∉ adr → h.get? b = some o → h'.get? b = some o
theorem fr_butL {g h h' : Heap} {L : Addr} {m : Str → Option Value} {adr : List Addr} (F : Fr g L h m) (k : KeepBut adr h h') (ha : ∀ a ∈ adr, g.get? a = none ∧ a ≠ L) : Fr g L h' m :=
  ⟨F.ns.at' fun o e => k L o (fun q => (ha L q).2 rfl) e, fun b o e => k b o (fun q => by rw [(ha b q).1] at e; cases e) (F.keep b o e), F.above⟩
/-- a new ledger for what stands in the heap -/
theorem reledger {g h : Heap} {L : Addr} {m : Str → Option Value} (F : Fr g L h m) : ∀ (l : List (Addr × Obj)), (∀ p ∈ l, h.get? p.1 = some p.2 ∧ NotNs p.2) →
    ∃ news, News g L h news ∧ ∀ p ∈ l, g.get? p.1 = some p.2 ∨ p ∈ news
  | [], _ => ⟨[], News.nil, fun _ hp => nomatch hp⟩
  | q :: r, hl => by
    obtain ⟨news, N, hn⟩ := reledger F r fun p hp => hl p (.tail _ hp)
    obtain ⟨hq, hns⟩ := hl q (.head _)
    cases hg : g.get? q.1 with
    | some o =>
      have e := F.keep _ _ hg
      rw [hq] at e; cases e
      exact ⟨news, N, fun p hp => by rcases List.mem_cons.mp hp with rfl | hp; exact .inl hg; exact hn p hp⟩
    | none =>
      refine ⟨q :: news, fun p hp => ?_, fun p hp => ?_⟩
      · rcases List.mem_cons.mp hp with rfl | hp
        · refine ⟨hq, fun e => ?_, hg⟩
          obtain ⟨o, es, ep, hL, hd, _⟩ := F.ns
          rw [← e, hq] at hL; cases hL
          exact hns _ _ hd
        · exact N p hp
      · rcases List.mem_cons.mp hp with rfl | hp
        · exact .inr (.head _)
        · exact (hn p hp).imp id (.tail _)
theorem held_of {g h : Heap} {L : Addr} {m : Str → Option Value} {news l : List (Addr × Obj)} (F : Fr g L h m) (N : News g L h news) (hl : ∀ p ∈ l, g.get? p.1 = some p.2 ∨ p ∈ news) : ∀ p ∈ l, h.get? p.1 = some p.2 :=
  fun p hp => (hl p hp).elim (F.keep _ _) fun q => (N p q).1

theorem news_of_adr {h₀ h : Heap} {L : Addr} : ∀ {adr : List Addr}, (∀ a ∈ adr, h₀.get? a = none ∧ a ≠ L) → (∀ a ∈ adr, ∃ o, h.get? a = some o) → ∃ news, News h₀ L h news ∧ news.map (·.1) = adr
  | [], _, _ => ⟨[], News.nil, rfl⟩
  | a :: r, h1, h2 => by
    obtain ⟨news, N, e⟩ := news_of_adr (adr := r) (fun b hb => h1 b (.tail _ hb)) fun b hb => h2 b (.tail _ hb)
    obtain ⟨o, ho⟩ := h2 a (.head _)
    refine ⟨(a, o) :: news, fun q hq => ?_, by simp [e]⟩
    rcases List.mem_cons.mp hq with rfl | hq
    · exact ⟨ho, (h1 a (.head _)).2, (h1 a (.head _)).1⟩
    · exact N q hq
theorem held_enter {h₀ h g h₁ : Heap} {L L' : Addr} {news : List (Addr × Obj)} {m : Str → Option Value} (G : Grown news h g L') (F : Fr g L' h₁ m) (N : News g L' h₁ news) (N0 : News h₀ L h news) :
    ∀ b o, h.get? b = some o → h₁.get? b = some o := fun b o e => by
  by_cases hb : b ∈ news.map (·.1)
  · obtain ⟨q, hq, rfl⟩ := List.mem_map.mp hb
    rw [(N0 q hq).1] at e
    cases e
    exact (N q hq).1
  · exact F.keep b o (G.up b o e hb)
/-- the key of a search, called from any frame upon the value v of place c -/
def KeyOk (w : World) (p : Program) (loose : List Str) (mean : ExcName → Option Value) (mg mb : Str → Option Value) (D : Nat) (adr : List Addr) {σ : Type} (S : Heap → Prop) (Led : σ → List (Addr × Obj) → Prop) (f : Addr) (probe : Nat → σ → Bool × σ) (R : Nat → σ → Prop) (c : Nat) (v : Value) : Prop :=
  ∀ (dp un : Nat) (gd : Option (List Code)) (cn : Str) (cs : Scope) (a : Addr) (ccd : Value) (cl : List (Str × Addr)) (outer : List Env) (A₀ : Around) (base h₀ : Heap) (L : Addr) (m : Str → Option Value) (s : Shared) (st : σ) (l : List (Addr × Obj)) (Q E : Value → Shared → Prop),
    Below A₀ base outer h₀ → Fr h₀ L s.heap m → (hd.heap_39 w.params).In h₀ → Top p loose mean mg mb h₀ → cs.kind = .function → dp < D → un < 3000 + 3 * dp → (∀ a ∈ adr, h₀.get? a = none ∧ a ≠ L) →
    S (hideAll s.heap adr) → R c st → Led st l → (∀ p ∈ l, s.heap.get? p.1 = some p.2) →
    (∀ h' tk' l', KeepBut adr s.heap h' → Led (probe c st).2 l' → (∀ p ∈ l', h'.get? p.1 = some p.2) → Q (.bool (probe c st).1) { s with heap := h', toks := tk' }) →
    wpAny (model PySem.Challenge.rw_ph0161_01.row.prog w) (ktrTop dp un gd cn cs L a ccd cl outer) (call (.ref f) [v] []) Q E s
abbrev FnBase (h : Heap) (f : Addr) : Prop := FnAt f h
theorem FnBase.keeps {g h : Heap} {f : Addr} (x : FnBase g f) (k : ∀ b o, g.get? b = some o → h.get? b = some o) : FnBase h f := let ⟨oc, od, fd, sl, e⟩ := x; ⟨oc, od, fd, sl, k _ _ e⟩
theorem fnK {g h : Heap} {L a : Addr} {m : Str → Option Value} (x : FnBase g a) (F : Fr g L h m) : FnBase h a := FnBase.keeps x F.keep
theorem callWithF {M : Model} {A : Around} {E : Value → Shared → Prop} {s : Shared} {env : Env} {pos : Pos} {first : List Value} {Q : Value → Shared → Prop} {q : Addr} {e : PySem.Expr} {rest : List PySem.Expr} (X : FnBase s.heap q)
    (he : starEach (e :: rest) env = (false, eval e env) :: starEach rest env) (hplain : (backTo pos (starEach rest env)).any (·.1) = false)
    (h : wpAny M A (spliced (backTo pos (starEach (e :: rest) env))) (fun vs s₁ => FnAt q s₁.heap ∧ wpAny M A (PySem.call (.ref q) (first ++ vs)) Q E s₁) E s) :
    wpAny M A (callWith pos (.ref q) first (backTo pos (starEach (e :: rest) env)) []) Q E s := callWith_F X h he hplain


def Hold (P : Prop) : Prop := P
theorem hold {P : Prop} (h : Hold P) : P := h
theorem unhold {P : Prop} (h : P) : Hold P := h
theorem holdC {M : Model} {A : Around} {E : Value → Shared → Prop} {s : Shared} {a : Scope} {b : List (Str × Addr)} {c : Addr} {d : Env} {n : Str} {v : Value} {Q : Unit → Shared → Prop} (h : Hold (wpAny M A (storeName (compEnvC a b c d) n v) Q E s)) : wpAny M A (storeName (compEnvC a b c d) n v) Q E s := h
noncomputable def LH (m₀ : Str → Option Value) (lo hi : Nat) (t1 t2 : Tok) (u : Option Value) : Str → Option Value :=
  fun z => if z = Str.ofString "lo" then some (.int lo t1) else if z = Str.ofString "hi" then some (.int hi t2) else if z = Str.ofString "mid" then u else m₀ z
def LhEnd (h₀ : Heap) (L : Addr) (s : Shared) (m₀ : Str → Option Value) (P : Nat → Nat → List (Addr × Obj) → Prop) (d : Nat) (s₃ : Shared) : Prop :=
  ∃ h' tk m' nx' lo hi, s₃ = { s with heap := h', toks := tk } ∧ Fr h₀ L h' m' ∧ News h₀ L h' nx' ∧ (∃ t, m' (Str.ofString "lo") = some (.int ((lo : Nat) : Int) t)) ∧ (∃ t, m' (Str.ofString "hi") = some (.int ((hi : Nat) : Int) t)) ∧
    (∀ z, z ≠ Str.ofString "lo" → z ≠ Str.ofString "hi" → z ≠ Str.ofString "mid" → m' z = m₀ z) ∧ hi - lo < d ∧ P lo hi nx'
section
variable {prog : Program} {w : World} {A : Around} {E : Value → Shared → Prop} {Q : Flow → Shared → Prop} {s : Shared} {env : Env} {h₀ : Heap} {L : Addr}
theorem lh_eq {m m₀ : Str → Option Value} {lo hi : Nat} {t1 t2 : Tok} (h1 : m (Str.ofString "lo") = some (.int lo t1)) (h2 : m (Str.ofString "hi") = some (.int hi t2)) (h3 : ∀ z, z ≠ Str.ofString "lo" → z ≠ Str.ofString "hi" → z ≠ Str.ofString "mid" → m z = m₀ z) :
    m = LH m₀ lo hi t1 t2 (m (Str.ofString "mid")) := by
  funext z
  unfold LH
  by_cases a : z = Str.ofString "lo"
  · rw [if_pos a, a]; exact h1
  · rw [if_neg a]
    by_cases b : z = Str.ofString "hi"
    · rw [if_pos b, b]; exact h2
    · rw [if_neg b]
      by_cases c : z = Str.ofString "mid"
      · rw [if_pos c, c]
      · rw [if_neg c]; exact h3 z a b c
theorem while_lohi {test : Expr} {body : List Stmt} {pos : Pos} {m₀ : Str → Option Value} {news : List (Addr × Obj)} (P : Nat → Nat → List (Addr × Obj) → Prop) (F : Fr h₀ L s.heap m₀) (N : News h₀ L s.heap news) {lo hi : Nat} {t1 t2 : Tok}
    (hlo : m₀ (Str.ofString "lo") = some (.int lo t1)) (hhi : m₀ (Str.ofString "hi") = some (.int hi t2)) (hP : P lo hi news)
    (turn : ∀ lo hi t1 t2 u nx h tk, P lo hi nx → Fr h₀ L h (LH m₀ lo hi t1 t2 u) → News h₀ L h nx →
      wpAny (model prog w) A (isTrue test env (eval test env)) (fun b s₂ => if b = true then wpAny (model prog w) A (execs body env) (fun f s₃ => f = .next ∧ LhEnd h₀ L s m₀ P (hi - lo) s₃) E s₂ else Q .next s₂) E { s with heap := h, toks := tk })
    (hE : PassesOwn (model prog w) A env E) :
    wpAny (model prog w) A (exec (.While test body [] pos) env) Q E s := by
  refine While_inv2 (fun n m nx => ∃ lo hi t1 t2 u, m = LH m₀ lo hi t1 t2 u ∧ n = hi - lo ∧ P lo hi nx) F N (n₀ := hi - lo) ⟨lo, hi, t1, t2, _, lh_eq hlo hhi fun _ _ _ _ => rfl, rfl, hP⟩ ?_ hE
  rintro n m₁ nx h tk F₁ N₁ ⟨lo, hi, t1, t2, u, rfl, rfl, hP⟩
  refine wpAny_mono (turn lo hi t1 t2 u nx h tk hP F₁ N₁) (fun b s₂ hb => ?_) fun _ _ x => x
  cases b with
  | false => simpa using hb
  | true =>
    simp only [if_true] at hb ⊢
    refine wpAny_mono hb (fun f s₃ q => ?_) fun _ _ x => x
    obtain ⟨rfl, h', tk', m', nx', lo', hi', rfl, F', N', ⟨t1', a⟩, ⟨t2', b⟩, c, d, e⟩ := q
    exact ⟨h', tk', m', nx', hi' - lo', rfl, F', N', d, lo', hi', t1', t2', _, lh_eq a b c, rfl, e⟩
end

theorem sub_hide {g h : Heap} {adr : List Addr} (k : ∀ b o, g.get? b = some o → h.get? b = some o) (ha : ∀ a ∈ adr, g.get? a = none) : ∀ b o, g.get? b = some o → (hideAll h adr).get? b = some o :=
  fun b o e => hideAll_get _ (k b o e) fun q => by rw [ha b q] at e; cases e
section
variable {w : World} {p : Program} {loose : List Str} {mean : ExcName → Option Value} {mg mb : Str → Option Value}
    {dp un : Nat} {gd : Option (List Code)} {cn : Str} {cs : Scope} {a : Addr} {ccd : Value} {cl : List (Str × Addr)} {outer : List Env} {A₀ : Around} {base h₀ : Heap} {L : Addr} {m : Str → Option Value} {s : Shared}
    {Q E : Value → Shared → Prop}
theorem KeyOk.use {D : Nat} {adr : List Addr} {σ : Type} {S : Heap → Prop} {Led : σ → List (Addr × Obj) → Prop} {f : Addr} {probe : Nat → σ → Bool × σ} {R : Nat → σ → Prop} {c : Nat} {v : Value} {news l : List (Addr × Obj)} {st : σ}
    (key : KeyOk w p loose mean mg mb D adr S Led f probe R c v) (B : Below A₀ base outer h₀) (F : Fr h₀ L s.heap m) (X : (hd.heap_39 w.params).In h₀) (N : News h₀ L s.heap news) (T : Top p loose mean mg mb h₀) (hk : cs.kind = .function)
    (hdp : dp < D) (hun : un < 3000 + 3 * dp) (hadr : ∀ a ∈ adr, h₀.get? a = none ∧ a ≠ L) (hS : ∀ g h, (∀ b o, g.get? b = some o → h.get? b = some o) → S g → S h) (hS0 : S h₀) (hR : R c st)
    (hLed : ∀ st l, Led st l → (∀ q ∈ l, NotNs q.2) ∧ ∀ a ∈ adr, ∃ o, (a, o) ∈ l) (hl : Led st l) (hl2 : ∀ p ∈ l, h₀.get? p.1 = some p.2 ∨ p ∈ news)
    (h : ∀ h' tk' news' l', Fr h₀ L h' m → News h₀ L h' news' → Led (probe c st).2 l' → (∀ p ∈ l', h₀.get? p.1 = some p.2 ∨ p ∈ news') → Q (.bool (probe c st).1) { s with heap := h', toks := tk' }) :
    wpAny (model PySem.Challenge.rw_ph0161_01.row.prog w) (ktrTop dp un gd cn cs L a ccd cl outer) (call (.ref f) [v] []) Q E s := by
  refine key _ _ _ _ _ _ _ _ _ _ _ _ _ _ _ _ _ _ _ B F X T hk hdp hun hadr (hS _ _ (sub_hide F.keep fun a ha => (hadr a ha).1) hS0) hR hl (held_of F N hl2) fun h' tk' l' k hl' hh => ?_
  have F' := fr_butL F k hadr
  obtain ⟨news', N', hn⟩ := reledger F' l' fun q hq => ⟨hh q hq, (hLed _ _ hl').1 q hq⟩
  exact h h' tk' news' l' F' N' hl' hn
end
section
variable {prog : Program} {w : World} {A : Around} {E : Value → Shared → Prop} {s : Shared} {value slice : PySem.Expr} {t u : Tok} {Q : Value → Shared → Prop} {g : Heap} {L l : Addr} {m : Str → Option Value} {vs : List Value}
theorem item_listB {k : Nat} (F : Fr g L s.heap m) (hl : g.IsList l vs.toArray) (hk : k < vs.length) (hb : vs.length ≤ 1000)
    (hs : subscripted slice false (.ref l) (.int (k : Int) u) = operate [.ref l, .int (k : Int) u] (getItem (.ref l) (.int (k : Int) u))) (h : Q (vs.getD k .none) s) :
    wpAny (model prog w) A (subscriptTail value slice (.ref l) (.int (k : Int) u)) Q E s :=
  have hL : s.heap.IsList l vs.toArray := hl.at fun o e => F.keep _ o e
  tail_any hL.typeIs slot_list_getitem.lookup (wpAny_getItem_list hL (by omega) (by omega) (by simp [hk]) h) hs
theorem fd2 {a b : Nat} (hab : a + b ≤ 4000) (h : Q (.int (((a + b) / 2 : Nat) : Int) s.toks) { s with toks := s.toks + 1 }) : wpAny (model prog w) A (binaryOp .FloorDiv (.int ((a : Int) + (b : Int)) t) (.int 2 u)) Q E s := by
  refine floordiv_int (by decide) ?_ (Or.inl (PyProof.noPylong_small (by omega)))
  have e : ((a : Int) + (b : Int)).fdiv 2 = (((a + b) / 2 : Nat) : Int) := by
    rw [Int.fdiv_eq_ediv_of_nonneg _ (by decide)]; omega
  rw [e]; exact h
end

theorem off_of {h : Heap} {h₀ : Heap} {L r : Addr} {news : List (Addr × Obj)} (N : News h₀ L h news) (hr : h.get? r = none) : Off1 r news := by
  have key : ∀ l : List (Addr × Obj), (∀ q ∈ l, q ∈ news) → Off1 r l := by
    intro l
    induction l with
    | nil => intro _; trivial
    | cons q r' ih =>
      intro hq
      refine ⟨fun e => ?_, ih fun q' hq' => hq q' (.tail _ hq')⟩
      have := (N q (hq q (.head _))).1
      have e' : q.1 = r := e
      rw [e', hr] at this; cases this
  exact key news fun _ h => h
section
variable {w : World} {p : Program} {loose : List Str} {mean : ExcName → Option Value} {mg mb : Str → Option Value}
    {dp un : Nat} {gd : Option (List Code)} {cn : Str} {cs : Scope} {a : Addr} {ccd : Value} {cl : List (Str × Addr)} {outer : List Env} {A₀ : Around} {base h₀ : Heap} {L : Addr} {m : Str → Option Value} {s : Shared}
    {Q E : Value → Shared → Prop} {news : List (Addr × Obj)}
theorem get_allK (B : Below A₀ base outer h₀) (F : Fr h₀ L s.heap m) (X : (hd.heap_39 w.params).In h₀) (N : News h₀ L s.heap news) (T : Top p loose mean mg mb h₀) (hk : cs.kind = .function)
    (hdp : dp < 940) {x l : Addr} {rows : List (Str × Str)} {y : Str} {t : Tok} (hT : TableAt s.heap w.params x l rows) (hx : y.length ≤ 100) (hit : noHit ((codeName.map PySem.Builtin.Re.reRawOf).map (·.toNat)) (Txt.lower y).cps = true)
    (h : ∀ r h' tk' ys, Fr h₀ L h' m → News h₀ L h' ((r, lst ys) :: news) → Off1 r news → StrsAre ys ((rows.filter fun r => Txt.lower r.1 == Txt.lower y).map (·.2)) → Q (.ref r) { s with heap := h', toks := tk' }) :
    wpAny (model PySem.Challenge.rw_ph0161_01.row.prog w) (ktrTop dp un gd cn cs L a ccd cl outer) (call (.ref 139) [.ref x, .str y t] []) Q E s :=
  get_all_spec B F X T hk hdp hT hx hit fun r h' tk' ys k hr hr' hys => h r h' tk' ys (F.keeps k) (fun q hq => by
    rcases List.mem_cons.mp hq with rfl | hq
    · refine ⟨hr', fun e => ?_, ?_⟩
      · obtain ⟨o, _, _, hL, _⟩ := F.ns
        have e' : r = L := e
        rw [← e', hr] at hL; cases hL
      · cases q : h₀.get? r with
        | none => rfl
        | some o => have := F.keep _ _ q; rw [hr] at this; cases this
    · exact (N.grown k) q hq) (off_of N hr) hys
theorem fitsK (B : Below A₀ base outer h₀) (F : Fr h₀ L s.heap m) (X : (hd.heap_39 w.params).In h₀) (N : News h₀ L s.heap news) (T : Top p loose mean mg mb h₀) (hk : cs.kind = .function)
    (hdp : dp < 900) (hun : un < 9000) {i j : Nat} {t t1 t2 : Tok} {x y : Nat} {l : Addr} (hi : i < 5) (hj : j < 5) (hl : s.heap.IsList l #[.int x t1, .int y t2]) (hx : x < 11) (hy : y < 11)
    (h : ∀ h' tk', Fr h₀ L h' m → News h₀ L h' news → Q (.bool (fitsP (i, j) (x, y))) { s with heap := h', toks := tk' }) :
    wpAny (model PySem.Challenge.rw_ph0161_01.row.prog w) (ktrTop dp un gd cn cs L a ccd cl outer) (call (.ref 216) [.str (txt i j) t, .ref l]) Q E s :=
  fits_spec B F X T hk hdp hun hi hj hx hy hl fun h' tk' k => h h' tk' (F.keeps k) (N.grown k)
end

theorem strs_get {vs : List Value} {xs : List PySem.Str} (x : StrsAre vs xs) : ∀ (i : Nat) (v : Value), vs[i]? = some v → ∃ y t, xs[i]? = some y ∧ v = .str y t := by
  induction x with
  | nil => intro i v h; simp at h
  | cons y t _ ih =>
    intro i v h
    cases i with
    | zero => simp at h; subst h; exact ⟨_, _, rfl, rfl⟩
    | succ i => simp at h; simpa using ih i v h

end

-- part C6
section
theorem fresh_C6 : True := by w_top off; trivial
open LCg LCt
section
variable {w : World} {p : Program} {loose : List Str} {mean : ExcName → Option Value} {mg mb : Str → Option Value}
    {dp un : Nat} {gd : Option (List Code)} {cn : Str} {cs : Scope} {a : Addr} {ccd : Value} {cl : List (Str × Addr)} {outer : List Env} {A₀ : Around} {base h₀ : Heap} {L : Addr} {m : Str → Option Value} {s : Shared}
    {Q E : Value → Shared → Prop}
local macro_rules | `(tactic| walk_at "callWith ref") => `(tactic| (k_here; k_dflt (apply Mine.callWithF; (apply Mine.fnK; assumption; k_asm); rfl; rfl; k_whole)))

local macro_rules | `(tactic| walk_at "exec While") => `(tactic| (refine Mine.hold ?_))
local macro_rules | `(tactic| walk_at "call ref") => `(tactic| (refine Mine.hold ?_))
local macro_rules | `(tactic| walk_at "binaryOp FloorDiv int int") => `(tactic| (apply Mine.fd2; omega; (try dsimp only)))
local macro_rules | `(tactic| walk_at "subscriptTail Name Name ref int") => `(tactic| (apply Mine.item_listB; k_asm; assumption; omega; assumption; with_unfolding_all rfl; (try dsimp only)))

set_option maxHeartbeats 8000000 in
theorem bisect_left_spec (B : Below A₀ base outer h₀) (F : Fr h₀ L s.heap m) (X : (hd.heap_39 w.params).In h₀) (T : Top p loose mean mg mb h₀) (hk : cs.kind = .function)
    {D : Nat} (hdp : dp + 1 < D) (hD : D ≤ 900) {adr : List Addr} (hun : un < 3000 + 3 * dp) (hadr : ∀ a ∈ adr, h₀.get? a = none ∧ a ≠ L) {σ : Type} {S : Heap → Prop} (hS : ∀ g h, (∀ b o, g.get? b = some o → h.get? b = some o) → S g → S h)
    {Led : σ → List (Addr × Obj) → Prop} (hLed : ∀ st l, Led st l → (∀ q ∈ l, NotNs q.2) ∧ ∀ a ∈ adr, ∃ o, (a, o) ∈ l) {f sp : Addr} {probe : Nat → σ → Bool × σ} {vs : List Value} {lo hi : Nat} {t1 t2 : Tok} {R : Nat → σ → Prop} {Pi : Nat → Nat → σ → Prop} (hP : ∀ lo hi st, lo < hi → Pi lo hi st → R ((lo + hi) / 2) st ∧ if (probe ((lo + hi) / 2) st).1 = true then Pi lo ((lo + hi) / 2) (probe ((lo + hi) / 2) st).2 else Pi ((lo + hi) / 2 + 1) hi (probe ((lo + hi) / 2) st).2) (hlen : vs.length ≤ 1000) (hlo : lo ≤ 1000) (hhi : hi ≤ vs.length)
    (key : ∀ c v, vs[c]? = some v → KeyOk w p loose mean mg mb D adr S Led f probe R c v) (hf : FnBase (hideAll s.heap adr) f)
    (hsp : (hideAll s.heap adr).IsList sp vs.toArray) (hS0 : S (hideAll s.heap adr)) {st : σ} {l : List (Addr × Obj)} (hP0 : Pi lo hi st) (hl : Led st l) (hl0 : ∀ p ∈ l, s.heap.get? p.1 = some p.2)
    (h : ∀ h' tk' l' t', KeepBut adr s.heap h' → Led (bis probe (hi - lo) lo hi st).2 l' → (∀ p ∈ l', h'.get? p.1 = some p.2) → Q (.int (bis probe (hi - lo) lo hi st).1 t') { s with heap := h', toks := tk' }) :
    wpAny (model PySem.Challenge.rw_ph0161_01.row.prog w) (ktrTop dp un gd cn cs L a ccd cl outer) (call (.ref 56) [.ref sp, .bool true, .int lo t1, .int hi t2] [(Str.ofString "key", .ref f)]) Q E s := by
  obtain ⟨news, N, hn⟩ := news_of_adr hadr fun a ha => let ⟨o, ho⟩ := (hLed st l hl).2 a ha; ⟨o, hl0 _ ho⟩
  revert X; k_fill; intro X
  refine wpAny_call ?_
  k_dflt ktr_enter
  intro g' L' h' G' F' N' B' X' T'
  obtain up := G'.hide
  rw [hn] at up
  obtain hadr' : ∀ a ∈ adr, g'.get? a = none ∧ a ≠ L' := fun a ha => by
    rw [← hn] at ha
    obtain ⟨q, hq, rfl⟩ := List.mem_map.mp ha
    exact ⟨(N' q hq).2.2, (N' q hq).2.1⟩
  obtain hf' : FnBase g' f := FnBase.keeps hf up
  obtain hsp' : g'.IsList sp vs.toArray := hsp.at fun o e => up _ o e
  obtain ⟨news2, N2, hl2⟩ := reledger F' l fun q hq => ⟨held_enter G' F' N' N _ _ (hl0 q hq), (hLed st l hl).1 q hq⟩
  clear N'
  obtain hkb0 : ∀ b o, b ∉ adr → s.heap.get? b = some o → g'.get? b = some o := fun b o q e => G'.up b o e (by rw [hn]; exact q)
  (try dsimp only); (try k_fold)
  k_steps
  refine unhold ?_
  refine while_lohi (fun lo' hi' nx => hi' ≤ vs.length ∧ lo' ≤ 1000 ∧ ∃ st' l', Pi lo' hi' st' ∧ Led st' l' ∧ (∀ p ∈ l', g'.get? p.1 = some p.2 ∨ p ∈ nx) ∧ bis probe (hi' - lo') lo' hi' st' = bis probe (hi - lo) lo hi st) (by assumption) (by assumption) rfl rfl ⟨hhi, hlo, st, l, hP0, hl, hl2, rfl⟩ ?_ ?_
  · rintro lo' hi' t1' t2' u nx h2 tk2 ⟨hhi', hlo', st', l', hPi', hl', hl2', hb'⟩ F2 N2
    clear hl2
    (try dsimp only); (try k_fold)
    k_steps
    · exact FnBase.keeps hf' (Fr.keep (by assumption))
    · rename_i hlt _ _ _
      refine unhold ?_
      obtain ⟨hR', hN'⟩ := hP _ _ _ (show lo' < hi' by omega) hPi'
      refine KeyOk.use (key ((lo' + hi') / 2) _ (by simp [show (lo' + hi') / 2 < vs.length by omega])) B' (by assumption) X' (by assumption) T' rfl (by show dp + 1 < D; omega) (by show un + 3 < 3000 + 3 * (dp + 1); omega) hadr' hS (hS _ _ up hS0) hR' hLed hl' hl2' ?_
      intro h3 tk3 nx3 l3 F3 N3 hl3 hl3'
      have hbs := bis_step probe (st := st') (show lo' < hi' by omega)
      cases hpb : (probe ((lo' + hi') / 2) st').1
      · rw [hpb] at hbs hN'
        simp only [Bool.false_eq_true, if_false] at hbs hN'
        (try dsimp only); (try k_fold)
        k_steps
        refine ⟨_, _, _, nx3, (lo' + hi') / 2 + 1, hi', rfl, by assumption, by assumption, ⟨_, rfl⟩, ⟨_, rfl⟩, fun z a b c => ?_, by omega, hhi', by omega, _, l3, hN', hl3, hl3', hbs.symm.trans hb'⟩
        simp only [if_neg a, if_neg b, if_neg c, LH]
      · rw [hpb] at hbs hN'
        simp only [if_true] at hbs hN'
        (try dsimp only); (try k_fold)
        k_steps
        refine ⟨_, _, _, nx3, lo', (lo' + hi') / 2, rfl, by assumption, by assumption, ⟨_, rfl⟩, ⟨_, rfl⟩, fun z a b c => ?_, by omega, by omega, by omega, _, l3, hN', hl3, hl3', hbs.symm.trans hb'⟩
        simp only [if_neg a, if_neg b, if_neg c, LH]
    · have hge : ¬ lo' < hi' := by omega
      rw [bis_end probe hge] at hb'
      (try dsimp only); (try k_unfold); (try dsimp only)
      rw [← hb'] at h
      exact h _ _ l' _ (fun b o q e => F2.keep b o (hkb0 b o q e)) hl' (held_of F2 N2 hl2')
  · k_steps
end

end

-- part C7
section
theorem fresh_C7 : True := by w_top off; trivial
local macro_rules | `(tactic| walk_at "zz9") => `(tactic| fail)
local macro_rules | `(tactic| walk_at "zz9") => `(tactic| fail)
local macro_rules | `(tactic| walk_at "zz9") => `(tactic| fail)
local macro_rules | `(tactic| walk_at "zz9") => `(tactic| fail)
open LCg LCt
section
variable {w : World} {p : Program} {loose : List Str} {mean : ExcName → Option Value} {mg mb : Str → Option Value}
    {dp un : Nat} {gd : Option (List Code)} {cn : Str} {cs : Scope} {a : Addr} {ccd : Value} {cl : List (Str × Addr)} {outer : List Env} {A₀ : Around} {base h₀ : Heap} {L : Addr} {m : Str → Option Value} {s : Shared}
    {Q E : Value → Shared → Prop}
local macro_rules | `(tactic| walk_at "callWith ref") => `(tactic| (k_here; k_dflt (apply Mine.callWithF; (apply Mine.fnK; assumption; k_asm); rfl; rfl; k_whole)))

local macro_rules | `(tactic| walk_at "exec While") => `(tactic| (refine Mine.hold ?_))
local macro_rules | `(tactic| walk_at "call ref") => `(tactic| (refine Mine.hold ?_))
local macro_rules | `(tactic| walk_at "binaryOp FloorDiv int int") => `(tactic| (apply Mine.fd2; omega; (try dsimp only)))
local macro_rules | `(tactic| walk_at "subscriptTail Name Name ref int") => `(tactic| (apply Mine.item_listB; k_asm; assumption; omega; assumption; with_unfolding_all rfl; (try dsimp only)))

set_option maxHeartbeats 8000000 in
theorem bisect_right_spec (B : Below A₀ base outer h₀) (F : Fr h₀ L s.heap m) (X : (hd.heap_39 w.params).In h₀) (T : Top p loose mean mg mb h₀) (hk : cs.kind = .function)
    {D : Nat} (hdp : dp + 1 < D) (hD : D ≤ 900) {adr : List Addr} (hun : un < 3000 + 3 * dp) (hadr : ∀ a ∈ adr, h₀.get? a = none ∧ a ≠ L) {σ : Type} {S : Heap → Prop} (hS : ∀ g h, (∀ b o, g.get? b = some o → h.get? b = some o) → S g → S h)
    {Led : σ → List (Addr × Obj) → Prop} (hLed : ∀ st l, Led st l → (∀ q ∈ l, NotNs q.2) ∧ ∀ a ∈ adr, ∃ o, (a, o) ∈ l) {f sp : Addr} {probe : Nat → σ → Bool × σ} {vs : List Value} {lo hi : Nat} {t1 t2 : Tok} {R : Nat → σ → Prop} {Pi : Nat → Nat → σ → Prop} (hP : ∀ lo hi st, lo < hi → Pi lo hi st → R ((lo + hi) / 2) st ∧ if (probe ((lo + hi) / 2) st).1 = true then Pi lo ((lo + hi) / 2) (probe ((lo + hi) / 2) st).2 else Pi ((lo + hi) / 2 + 1) hi (probe ((lo + hi) / 2) st).2) (hlen : vs.length ≤ 1000) (hlo : lo ≤ 1000) (hhi : hi ≤ vs.length)
    (key : ∀ c v, vs[c]? = some v → KeyOk w p loose mean mg mb D adr S Led f probe R c v) (hf : FnBase (hideAll s.heap adr) f)
    (hsp : (hideAll s.heap adr).IsList sp vs.toArray) (hS0 : S (hideAll s.heap adr)) {st : σ} {l : List (Addr × Obj)} (hP0 : Pi lo hi st) (hl : Led st l) (hl0 : ∀ p ∈ l, s.heap.get? p.1 = some p.2)
    (h : ∀ h' tk' l' t', KeepBut adr s.heap h' → Led (bis probe (hi - lo) lo hi st).2 l' → (∀ p ∈ l', h'.get? p.1 = some p.2) → Q (.int (bis probe (hi - lo) lo hi st).1 t') { s with heap := h', toks := tk' }) :
    wpAny (model PySem.Challenge.rw_ph0161_01.row.prog w) (ktrTop dp un gd cn cs L a ccd cl outer) (call (.ref 47) [.ref sp, .bool false, .int lo t1, .int hi t2] [(Str.ofString "key", .ref f)]) Q E s := by
  obtain ⟨news, N, hn⟩ := news_of_adr hadr fun a ha => let ⟨o, ho⟩ := (hLed st l hl).2 a ha; ⟨o, hl0 _ ho⟩
  revert X; k_fill; intro X
  refine wpAny_call ?_
  k_dflt ktr_enter
  intro g' L' h' G' F' N' B' X' T'
  obtain up := G'.hide
  rw [hn] at up
  obtain hadr' : ∀ a ∈ adr, g'.get? a = none ∧ a ≠ L' := fun a ha => by
    rw [← hn] at ha
    obtain ⟨q, hq, rfl⟩ := List.mem_map.mp ha
    exact ⟨(N' q hq).2.2, (N' q hq).2.1⟩
  obtain hf' : FnBase g' f := FnBase.keeps hf up
  obtain hsp' : g'.IsList sp vs.toArray := hsp.at fun o e => up _ o e
  obtain ⟨news2, N2, hl2⟩ := reledger F' l fun q hq => ⟨held_enter G' F' N' N _ _ (hl0 q hq), (hLed st l hl).1 q hq⟩
  clear N'
  obtain hkb0 : ∀ b o, b ∉ adr → s.heap.get? b = some o → g'.get? b = some o := fun b o q e => G'.up b o e (by rw [hn]; exact q)
  (try dsimp only); (try k_fold)
  k_steps
  refine unhold ?_
  refine while_lohi (fun lo' hi' nx => hi' ≤ vs.length ∧ lo' ≤ 1000 ∧ ∃ st' l', Pi lo' hi' st' ∧ Led st' l' ∧ (∀ p ∈ l', g'.get? p.1 = some p.2 ∨ p ∈ nx) ∧ bis probe (hi' - lo') lo' hi' st' = bis probe (hi - lo) lo hi st) (by assumption) (by assumption) rfl rfl ⟨hhi, hlo, st, l, hP0, hl, hl2, rfl⟩ ?_ ?_
  · rintro lo' hi' t1' t2' u nx h2 tk2 ⟨hhi', hlo', st', l', hPi', hl', hl2', hb'⟩ F2 N2
    clear hl2
    (try dsimp only); (try k_fold)
    k_steps
    · exact FnBase.keeps hf' (Fr.keep (by assumption))
    · rename_i hlt _ _ _
      refine unhold ?_
      obtain ⟨hR', hN'⟩ := hP _ _ _ (show lo' < hi' by omega) hPi'
      refine KeyOk.use (key ((lo' + hi') / 2) _ (by simp [show (lo' + hi') / 2 < vs.length by omega])) B' (by assumption) X' (by assumption) T' rfl (by show dp + 1 < D; omega) (by show un + 3 < 3000 + 3 * (dp + 1); omega) hadr' hS (hS _ _ up hS0) hR' hLed hl' hl2' ?_
      intro h3 tk3 nx3 l3 F3 N3 hl3 hl3'
      have hbs := bis_step probe (st := st') (show lo' < hi' by omega)
      cases hpb : (probe ((lo' + hi') / 2) st').1
      · rw [hpb] at hbs hN'
        simp only [Bool.false_eq_true, if_false] at hbs hN'
        (try dsimp only); (try k_fold)
        k_steps
        refine ⟨_, _, _, nx3, (lo' + hi') / 2 + 1, hi', rfl, by assumption, by assumption, ⟨_, rfl⟩, ⟨_, rfl⟩, fun z a b c => ?_, by omega, hhi', by omega, _, l3, hN', hl3, hl3', hbs.symm.trans hb'⟩
        simp only [if_neg a, if_neg b, if_neg c, LH]
      · rw [hpb] at hbs hN'
        simp only [if_true] at hbs hN'
        (try dsimp only); (try k_fold)
        k_steps
        refine ⟨_, _, _, nx3, lo', (lo' + hi') / 2, rfl, by assumption, by assumption, ⟨_, rfl⟩, ⟨_, rfl⟩, fun z a b c => ?_, by omega, by omega, by omega, _, l3, hN', hl3, hl3', hbs.symm.trans hb'⟩
        simp only [if_neg a, if_neg b, if_neg c, LH]
    · have hge : ¬ lo' < hi' := by omega
      rw [bis_end probe hge] at hb'
      (try dsimp only); (try k_unfold); (try dsimp only)
      rw [← hb'] at h
      exact h _ _ l' _ (fun b o q e => F2.keep b o (hkb0 b o q e)) hl' (held_of F2 N2 hl2')
  · k_steps
end

end

-- part C8
section
theorem fresh_C8 : True := by w_top off; trivial
open LCg LCt
/-- a def's parts, read off the program -/
noncomputable def fnBody : Stmt → List Stmt
  | .FunctionDef _ _ b .. => b
  | _ => []
noncomputable def fnParams : Stmt → Arguments
  | .FunctionDef _ a .. => a
  | _ => { posonlyargs := [], args := [], vararg := none, kwonlyargs := [], kw_defaults := [], kwarg := none, defaults := [] }
noncomputable def fnScope : Stmt → Scope
  | .FunctionDef _ _ _ _ _ _ sc .. => sc
  | _ => { kind := .function, names := [], isGenerator := false, isCoroutine := false }
noncomputable def lookedBody : { b : List Stmt // b = fnBody ((fnBody (PySem.Challenge.pw_ph0161_01.main.body.getD 14 (.Pass ⟨0, 0, 0, 0⟩))).getD 2 (.Pass ⟨0, 0, 0, 0⟩)) } := by
  refine ⟨?a, ?b⟩
  case b =>
    conv => rhs; whnf
noncomputable def lookedParams : { b : Arguments // b = fnParams ((fnBody (PySem.Challenge.pw_ph0161_01.main.body.getD 14 (.Pass ⟨0, 0, 0, 0⟩))).getD 2 (.Pass ⟨0, 0, 0, 0⟩)) } := by
  refine ⟨?a, ?b⟩
  case b =>
    conv => rhs; whnf
noncomputable def lookedScope : { b : Scope // b = fnScope ((fnBody (PySem.Challenge.pw_ph0161_01.main.body.getD 14 (.Pass ⟨0, 0, 0, 0⟩))).getD 2 (.Pass ⟨0, 0, 0, 0⟩)) } := by
  refine ⟨?a, ?b⟩
  case b =>
    conv => rhs; whnf

section
variable {prog : Program} {w : World} {K : Frag} {A₀ A : Around} {s : Shared} {base h₀ : Heap} {outer : List Env} {L : Addr} {m mg mb : Str → Option Value} {news : List (Addr × Obj)}
  {p : Program} {loose : List Str} {mean : ExcName → Option Value} {env : Env} {R : Result → Shared → Prop} {name qual : Str} {params : Arguments} {body : List Stmt} {scope : Scope}
  {dV kV doc pm cdv ct oc : Value} {an od : Option Addr} {osl : Array (Option Value)} {f : Addr} {args : Args} {x cnm : Str} {v : Value} {cl : List (Str × Addr)} {fo : Obj}
/-- a def with another's cells and one of its own, one parameter that is no cell -/
theorem codeX_MC1 (B : Below A₀ base outer h₀) (F : Fr h₀ L s.heap m) (X₀ : K.In h₀) (N : News h₀ L s.heap news) (T : Top p loose mean mg mb h₀) (hA : A.frames = some (env :: outer)) (hf : env.frame = some L) (hke : env.scope.kind = .function)
    (ho : s.heap.get? f = some fo) (hd : fo.data = .func (fnX name qual params body scope cl dV kV doc pm an cdv ct)) (hcd : s.heap.CodeRec cdv qual) (hroom : A.depth < recursionLimit)
    (hbind : BindsTo s (fnX name qual params body scope cl dV kV doc pm an cdv ct) args [(x, v)]) (hloc : scope.names.lookup x = some .local)
    (hcf : ∀ n, cellsFrom n scope.names cl = (cnm, n) :: cl) (hpc : ∀ h, pushCells h scope.names = h.push { cls := .type "cell", data := .cell none })
    (h : ∀ g L' h₁, Grown news s.heap g L' → Fr g L' h₁ (fun y => if y = x then some v else none) → News g L' h₁ ((L' + 1, ({ cls := .type "cell", data := .cell none } : Obj)) :: news) → Below A base (env :: outer) g → K.In g → Top p loose mean mg mb g →
      wpAny (model prog w) (A.deeper (envX qual scope L' f cdv ((cnm, L' + 1) :: cl))) (execs body (envX qual scope L' f cdv ((cnm, L' + 1) :: cl)))
        (fun fl s' => R (.ok (.ret (match fl with | .ret v => v | _ => .none))) s')
        (fun e s' => wpAny (model prog w) (A.deeper (envX qual scope L' f cdv ((cnm, L' + 1) :: cl))) (leaving (envX qual scope L' f cdv ((cnm, L' + 1) :: cl)) e) (fun _ s'' => R (.error e) s'') (fun e' s'' => R (.error e') s'') s')
        { s with heap := h₁, toks := s.toks + 1 })
    (hco : scope.isCoroutine = false) (hgen : scope.isGenerator = false) (hk : scope.kind = .function) : codeAny (model prog w) A (.call (.ref f) args) R s := by
  obtain ⟨BG, st, G⟩ := ground_M B F N hA hf hke
  refine codeAny_call_function hroom ho hd hco hgen rfl hcd (hbind _ _ _ _ ?_)
  simp only [newFunctionEnv, Option.isSome_none, Bool.false_eq_true, if_false]
  refine wpAny_bind (wpAny_alloc ?_)
  refine wpAny_bind (wpAny_layCells _ (fun name kind cells => by cases hkc : kind == NameKind.cell <;> simp [hkc]) _ _ _ _ ?_)
  rw [hcf, hpc]
  have e1 : ({ s with heap := s.heap.push { cls := .type "frame", data := .dict #[] } } : Shared).heap.objs.size = s.heap.objs.size + 1 := Heap.size_push ..
  rw [e1]
  refine wpAny_bind ?_
  rw [List.forIn_cons]
  have hn₀ : (s.heap.push { cls := .type "frame", data := .dict #[] }).Ns s.heap.objs.size fun _ => none := Heap.Ns.new s.heap (.type "frame")
  refine wpAny_bind (wpAny_bind (wpAny_storeName_local (m := fun _ => none) (by exact hloc) (hn₀.keeps fun b o e => Heap.get?_push_of_some _ e) (fun h' hn' hs' => ?_) (by show (scope.kind == .class || (scope.kind == .module && _)) = false; rw [hk]; rfl)))
  refine wpAny_pure ?_
  dsimp only
  rw [List.forIn_nil]
  refine wpAny_pure (wpAny_pure ?_)
  have hcell : h'.get? (s.heap.objs.size + 1) = some { cls := .type "cell", data := .cell none } :=
    hs'.extBut _ _ (Nat.ne_of_gt (Nat.lt_succ_self _)) (by rw [← e1]; exact Heap.get?_push_size _ rfl)
  have hk₁ : ∀ b o, s.heap.get? b = some o → h'.get? b = some o := fun b o e => hs'.extBut b o (Nat.ne_of_lt (Heap.lt_size e)) (Heap.get?_push_of_some _ (Heap.get?_push_of_some _ e))
  have hD : s.heap.get? (s.heap.objs.size + 1) = none := by
    cases q : s.heap.get? (s.heap.objs.size + 1) with
    | none => rfl
    | some o => exact absurd (Nat.lt_of_succ_lt (Heap.lt_size q)) (Nat.lt_irrefl _)
  refine ⟨(T.nolimit.keeps F.keep).keeps hk₁, codeAny_func ?_⟩
  refine h _ s.heap.objs.size h' G ⟨hn', fun b o e => hk₁ b o (of_hideAll _ e), Nat.le_of_eq (hideAll_size _ _)⟩ (fun p hp => ?_) BG (X₀.keeps st) (T.keeps st)
  rcases List.mem_cons.mp hp with rfl | hp
  · refine ⟨hcell, Nat.ne_of_gt (Nat.lt_succ_self _), ?_⟩
    cases q : (hideAll s.heap (news.map (·.1))).get? (s.heap.objs.size + 1) with
    | none => rfl
    | some o => have := of_hideAll _ q; rw [hD] at this; cases this
  · exact ⟨hk₁ _ _ (N p hp).1, Nat.ne_of_lt (Heap.lt_size (N p hp).1), hideAll_none _ (List.mem_map_of_mem hp)⟩

theorem nameX_FB {M : Model} {E : Value → Shared → Prop} {a : Addr} {cn : Str} {cs : Scope} {ccd : Value} {y : Str} {pos : Pos} {u : Value} {Q : Value → Shared → Prop} {c : Addr} (F : Fr h₀ L s.heap m) (hc : cl.lookup y = some c) (hi : h₀.IsCell c (some u))
    (hk : cs.kind = .function) (hx : (envX cn cs L a ccd cl).kindOf y = some .free) (hb : (y == ("__debug__" : Str)) = false) (hn : (y == ("__classdict__" : Str)) = false) (h : Q u s) :
    wpAny M A (eval (.Name y pos) (envX cn cs L a ccd cl)) Q E s := wpAny_Name (wpAny_loadName_free hk hx hc (hi.keeps F.keep) h hn) hb
end

/-- the names of the four spellings; the rows of the guests -/
noncomputable def nameOf : Nat → Str
  | 0 => Str.ofString "a"
  | 1 => Str.ofString "A"
  | 2 => Str.ofString "ab"
  | _ => Str.ofString "aB"
noncomputable def rowOf (g : Guest) : Str × Str := (nameOf g.1, txt g.2.1 g.2.2)
def GuestsOk (gs : List Guest) : Prop := ∀ g ∈ gs, g.1 < 4 ∧ g.2.1 < 5 ∧ g.2.2 < 5
/-- the code's table behind the first making of looked -/
noncomputable def psOf (c' : Addr) : Array Value := #[rawInt 152, rawInt 4, .ref c']
def IsPair (o : Obj) (q : Nat × Nat) : Prop := o.cls = .type "list" ∧ ∃ t u n, o.data = .seq #[.int q.1 t, .int q.2 u] n
noncomputable def capOf : Nat → Nat
  | 0 => 0
  | 1 => 20
  | _ => 1000
/-- the contract of _law_rest where k places are still to be found -/
def RestC (w : World) (p : Program) (loose : List Str) (mean : ExcName → Option Value) (mg mb : Str → Option Value) (D : Nat) (gs : List Guest) (upper : Bool) (k : Nat) : Prop :=
  ∀ (dp un : Nat) (gd : Option (List Code)) (cn : Str) (cs : Scope) (a : Addr) (ccd : Value) (cl : List (Str × Addr)) (outer : List Env) (A₀ : Around) (base h₀ : Heap) (L : Addr) (m : Str → Option Value) (s : Shared) (Q E : Value → Shared → Prop)
    (x l lk c' se lo hi : Addr) (qual : Str) (sv : List Value) (sl : List Nat) (low high : Nat × Nat) (vl : List Value) (nl : Nat) (t1 t2 t3 t4 : Tok),
    Below A₀ base outer h₀ → Fr h₀ L s.heap m → (hd.heap_39 w.params).In h₀ → Top p loose mean mg mb h₀ → cs.kind = .function → dp < D → un < 3000 + 3 * dp → (∀ a ∈ [lk, 218], h₀.get? a = none ∧ a ≠ L) →
    TableAt (hideAll s.heap [lk, 218]) w.params x l (gs.map rowOf) → CodeHd (hideAll s.heap [lk, 218]) 220 218 → (hideAll s.heap [lk, 218]).CodeRec (.ref c') qual → qual = Str.ofString "_law_rest.<locals>.looked" →
    (hideAll s.heap [lk, 218]).IsList se sv.toArray → IntsAre sv (sl.map fun n => ((n : Nat) : Int)) → sl.length + k = 2 → (∀ i ∈ sl, i ≤ 9) →
    (hideAll s.heap [lk, 218]).IsList lo #[.int low.1 t1, .int low.2 t2] → low.1 ≤ 9 → low.2 ≤ 9 → (hideAll s.heap [lk, 218]).IsList hi #[.int high.1 t3, .int high.2 t4] → high.1 ≤ 9 → high.2 ≤ 9 →
    s.heap.get? lk = some (listOf vl.toArray nl) → vl.length + capOf k ≤ 1000000 → s.heap.get? 218 = some (tabObj (psOf c')) → @LT.lt Nat _ 218 lk →
    (∀ (r : Addr) (h' : Heap) (tk' : Nat) (vl' : List Value) (nl' : Nat) (o : Obj), KeepBut [lk, 218] s.heap h' → h'.get? 218 = some (tabObj (psOf c')) → h'.get? lk = some (listOf vl'.toArray nl') → vl'.length = vl.length + (restF (come gs) upper k sl low high).2 →
      h'.get? r = some o → IsPair o (restF (come gs) upper k sl low high).1 → (r = se ∨ @LE.le Nat _ s.heap.objs.size r) → Q (.ref r) { s with heap := h', toks := tk' }) →
    wpAny (model PySem.Challenge.rw_ph0161_01.row.prog w) (ktrTop dp un gd cn cs L a ccd cl outer) (call (.ref 221) [.ref x, .ref lk, .ref se, .ref lo, .ref hi, .bool upper] []) Q E s

theorem lower_name : ∀ k < 4, (Txt.lower (nameOf k) == Txt.lower (Str.ofString "A")) = (k / 2 == 0) ∧ (Txt.lower (nameOf k) == Txt.lower (Str.ofString "Ab")) = (k / 2 == 1) ∧ (Txt.lower (nameOf k) == Txt.lower (Str.ofString "a")) = (k / 2 == 0) ∧
    (Txt.lower (nameOf k) == Txt.lower (Str.ofString "ab")) = (k / 2 == 1) ∧ (Txt.lower (nameOf k) == Txt.lower (Str.ofString "AB")) = (k / 2 == 1) := by decide +kernel
theorem crowd_rows {gs : List Guest} (hg : GuestsOk gs) {y : Str} {c : Nat} (hy : ∀ k < 4, (Txt.lower (nameOf k) == Txt.lower y) = (k / 2 == c)) :
    ((gs.map rowOf).filter fun r => Txt.lower r.1 == Txt.lower y).map (·.2) = (crowd gs c).map fun q => txt q.1 q.2 := by
  unfold crowd
  induction gs with
  | nil => rfl
  | cons g r ih =>
    have ih' := ih fun g' hg' => hg g' (.tail _ hg')
    have h1 := hy g.1 (hg g (.head _)).1
    rw [List.map_cons, List.filter_cons, List.filter_cons]
    have e : (rowOf g).1 = nameOf g.1 := rfl
    rw [e, h1]
    cases (g.1 / 2 == c) with
    | true => simp only [if_true, List.map_cons]; rw [ih']; rfl
    | false => simp only [Bool.false_eq_true, if_false]; exact ih'
theorem crowd_ok {gs : List Guest} (hg : GuestsOk gs) {c : Nat} {q : Nat × Nat} (hq : q ∈ crowd gs c) : q.1 < 5 ∧ q.2 < 5 := by
  obtain ⟨g, hg', rfl⟩ := List.mem_map.mp hq
  exact (hg g (List.mem_filter.mp hg').1).2
theorem crowd_len (gs : List Guest) (c : Nat) : (crowd gs c).length ≤ gs.length := by
  unfold crowd; rw [List.length_map]; exact List.length_filter_le _ _
theorem texts_at {gs : List Guest} (hg : GuestsOk gs) {c : Nat} {ys : List Value} (hy : StrsAre ys ((crowd gs c).map fun q => txt q.1 q.2)) (i : Nat) (v : Value) (hv : ys[i]? = some v) :
    ∃ q, (crowd gs c)[i]? = some q ∧ ∃ t, v = .str (txt q.1 q.2) t ∧ q.1 < 5 ∧ q.2 < 5 := by
  obtain ⟨y, t, h1, rfl⟩ := strs_get hy i v hv
  rw [List.getElem?_map] at h1
  obtain ⟨q, h2, rfl⟩ := Option.map_eq_some_iff.mp h1
  have := crowd_ok hg (List.mem_of_getElem? h2)
  exact ⟨q, h2, t, rfl, this⟩

end

-- part C9
section
theorem fresh_C9 : True := by w_top off; trivial
local macro_rules | `(tactic| walk_at "zz9") => `(tactic| fail)
open LCg LCt
structure StaticL (w : World) (gs : List Guest) (upper : Bool) (x l lk un ov c' f se : Addr) (qual : Str) (sv : List Value) (t : Nat) (vs : List Value) (cf : Addr → Value × Value × Value) (cs : Nat → Addr) (h : Heap) : Prop where
  fn : ∃ doc pm ctv, h.get? f = some (fnMade (Str.ofString "looked") qual lookedParams.1 lookedBody.1 lookedScope.1 [(Str.ofString "upper", cs 6), (Str.ofString "under", cs 5), (Str.ofString "turn", cs 4), (Str.ofString "table", cs 3), (Str.ofString "seen", cs 2), (Str.ofString "over", cs 1), (Str.ofString "looks", cs 0)] doc pm c' ctv)
  rec_ : h.CodeRec (.ref c') qual
  tab : TableAt h w.params x l (gs.map rowOf)
  chd : CodeHd h 220 218
  looks : h.IsCell (cs 0) (some (.ref lk))
  over : h.IsCell (cs 1) (some (.ref ov))
  seen : h.IsCell (cs 2) (some (.ref se))
  table : h.IsCell (cs 3) (some (.ref x))
  turn : ∃ tk, h.IsCell (cs 4) (some (.int t tk))
  under : h.IsCell (cs 5) (some (.ref un))
  upper : h.IsCell (cs 6) (some (.bool upper))
  sv : h.IsList se sv.toArray
  spots : ∀ (c : Nat) (v : Value), vs[c]? = some v → ∃ b tk, v = .ref b ∧ h.IsList b #[.int c tk]
structure LedL (un ov lk c' : Addr) (k0 : Nat) (st : St) (l : List (Addr × Obj)) : Prop where
  at_ : ∃ (vu : List Value) (nu : Nat) (vo : List Value) (no : Nat) (vl : List Value) (nl : Nat) (au ao : Addr) (ou oo : Obj),
    l = [(un, listOf vu.toArray nu), (ov, listOf vo.toArray no), (lk, listOf vl.toArray nl), (218, tabObj (psOf c')), (au, ou), (ao, oo)] ∧ vu.getLast? = some (.ref au) ∧ vo.getLast? = some (.ref ao) ∧ IsPair ou st.u ∧ IsPair oo st.o ∧ vl.length = k0 + st.k ∧
    vu.length ≤ st.k + 1 ∧ vo.length ≤ st.k + 1 ∧ au ∉ [un, ov, lk, 218] ∧ ao ∉ [un, ov, lk, 218]
def RL (k0 k : Nat) (c : Nat) (st : St) : Prop := c ≤ 9 ∧ st.u.1 ≤ 9 ∧ st.u.2 ≤ 9 ∧ st.o.1 ≤ 9 ∧ st.o.2 ≤ 9 ∧ k0 + st.k + capOf k + 1 ≤ 1000000

section
variable {prog : Program} {w : World} {A : Around} {E : Value → Shared → Prop} {s : Shared} {value slice : PySem.Expr} {t u : Tok} {Q : Value → Shared → Prop} {h₀ : Heap} {L l : Addr} {m : Str → Option Value} {vs : List Value} {news : List (Addr × Obj)} {n : Nat} {v : Value}
theorem item_last (N : News h₀ L s.heap news) (hm : (l, listOf vs.toArray n) ∈ news) (hv : vs.getLast? = some v) (hb : vs.length ≤ 2000000)
    (hs : subscripted slice false (.ref l) (.int (-1) u) = operate [.ref l, .int (-1) u] (getItem (.ref l) (.int (-1) u))) (h : Q v s) :
    wpAny (model prog w) A (subscriptTail value slice (.ref l) (.int (-1) u)) Q E s := by
  have hL : s.heap.IsList l vs.toArray := ⟨_, (N _ hm).1, rfl, _, rfl⟩
  have hne : vs ≠ [] := fun e => by rw [e] at hv; cases hv
  have hlen : 0 < vs.length := List.length_pos_iff.mpr hne
  refine tail_any hL.typeIs slot_list_getitem.lookup (wpAny_getItem_list_neg hL (by decide) ?_ (by decide) ?_ h) hs
  · rw [List.size_toArray]; omega
  · rw [List.size_toArray, List.getElem?_toArray, show ((-1 : Int) + (vs.length : Int)).toNat = vs.length - 1 by omega]
    rw [← List.getLast?_eq_getElem?]; exact hv
end

theorem after_rest {g h h3 : Heap} {L D C un ov lk r : Addr} {m : Str → Option Value} {od oc ou oo ol op ol3 o3 : Obj} (F : Fr g L h m) (N : News g L h [(D, od), (C, oc), (un, ou), (ov, oo), (lk, ol), (218, op)])
    (hd : @LT.lt Nat _ C D) (hn : @LT.lt Nat _ 218 lk ∧ @LT.lt Nat _ lk un ∧ @LT.lt Nat _ un ov ∧ @LT.lt Nat _ ov L ∧ @LT.lt Nat _ L C)
    (kb : KeepBut [lk, 218] h h3) (e2 : h3.get? 218 = some op) (el : h3.get? lk = some ol3) (er : h3.get? r = some o3) (fr : r = D ∨ @LE.le Nat _ h.objs.size r) :
    Fr g L h3 m ∧ News g L h3 [(r, o3), (C, oc), (un, ou), (ov, oo), (lk, ol3), (218, op)] ∧ @LT.lt Nat _ C r := by
  have a1 := N (D, od) (.head _)
  have a2 := N (C, oc) (.tail _ (.head _))
  have a3 := N (un, ou) (.tail _ (.tail _ (.head _)))
  have a4 := N (ov, oo) (.tail _ (.tail _ (.tail _ (.head _))))
  have a5 := N (lk, ol) (.tail _ (.tail _ (.tail _ (.tail _ (.head _)))))
  have a6 := N (218, op) (.tail _ (.tail _ (.tail _ (.tail _ (.tail _ (.head _))))))
  dsimp only at a1 a2 a3 a4 a5 a6
  obtain ⟨n1, n2, n3, n4, n5⟩ := hn
  have sD : @LT.lt Nat _ D h.objs.size := Heap.lt_size a1.1
  have hr : @LE.le Nat _ D r := by
    rcases fr with rfl | fr
    · exact Nat.le_refl _
    · omega
  have hg : g.get? r = none := by
    rcases fr with rfl | fr
    · exact a1.2.2
    · cases q : g.get? r with
      | none => rfl
      | some o => exact absurd (Nat.lt_of_lt_of_le (Heap.lt_size (F.keep _ _ q)) fr) (Nat.lt_irrefl _)
  refine ⟨fr_butL F kb fun a ha => ?_, ?_, by omega⟩
  · simp only [List.mem_cons, List.not_mem_nil, or_false] at ha
    rcases ha with rfl | rfl
    · exact ⟨a5.2.2, a5.2.1⟩
    · exact ⟨a6.2.2, a6.2.1⟩
  · intro q hq
    simp only [List.mem_cons, List.not_mem_nil, or_false] at hq
    have nk : ∀ b : Addr, @LT.lt Nat _ lk b → b ∉ [lk, 218] := fun b x hb => by
      simp only [List.mem_cons, List.not_mem_nil, or_false] at hb
      rcases hb with (hb : @Eq Nat _ _) | (hb : @Eq Nat _ _) <;> omega
    rcases hq with rfl | rfl | rfl | rfl | rfl | rfl
    · exact ⟨er, Nat.ne_of_gt (by show @LT.lt Nat _ _ _; omega), hg⟩
    · exact ⟨kb _ _ (nk _ (by omega)) a2.1, a2.2⟩
    · exact ⟨kb _ _ (nk _ (by omega)) a3.1, a3.2⟩
    · exact ⟨kb _ _ (nk _ (by omega)) a4.1, a4.2⟩
    · exact ⟨el, a5.2⟩
    · exact ⟨e2, a6.2⟩
theorem fr_hide {g h : Heap} {L : Addr} {m : Str → Option Value} {news : List (Addr × Obj)} {adr : List Addr} (F : Fr g L h m) (N : News g L h news) (ha : ∀ a ∈ adr, ∃ o, (a, o) ∈ news) : ∀ b o, g.get? b = some o → (hideAll h adr).get? b = some o :=
  sub_hide F.keep fun a q => let ⟨_, hm⟩ := ha a q; (N _ hm).2.2

theorem prb_yes {f : Nat → Nat × Nat → Nat} {upper : Bool} {inner : List Nat → Nat × Nat → Nat × Nat → (Nat × Nat) × Nat} {t c n : Nat} {sl : List Nat} {st : St} {q : Nat × Nat} (hr : inner (sl ++ [c]) st.u st.o = (q, n)) (he : enoughB f upper t c q = true) :
    prb f upper inner t sl c st = (true, ⟨st.u, q, st.k + n + 1⟩) := by unfold prb; rw [hr]; dsimp only; rw [if_pos he]
theorem prb_no {f : Nat → Nat × Nat → Nat} {upper : Bool} {inner : List Nat → Nat × Nat → Nat × Nat → (Nat × Nat) × Nat} {t c n : Nat} {sl : List Nat} {st : St} {q : Nat × Nat} (hr : inner (sl ++ [c]) st.u st.o = (q, n)) (he : enoughB f upper t c q = false) :
    prb f upper inner t sl c st = (false, ⟨q, st.o, st.k + n + 1⟩) := by unfold prb; rw [hr]; dsimp only; rw [he]; simp
section
variable {s : Shared} {Q : Value → Shared → Prop} {un ov lk r c' L' au ao C : Addr} {k0 k t c rk : Nat} {st : St} {gs : List Guest} {upper b : Bool} {sl : List Nat} {g' h9 : Heap} {m9 : Str → Option Value} {vu vo vl vl3 : List Value} {nu no nl nl3 tk : Nat} {ou oo o3 oc o1 o2 : Obj} {q : Nat × Nat} {inner : List Nat → Nat × Nat → Nat × Nat → (Nat × Nat) × Nat}
theorem leaf_yes (h : ∀ h' tk' l', KeepBut [un, ov, lk, 218] s.heap h' → LedL un ov lk c' k0 (prb (come gs) upper inner t sl c st).2 l' → (∀ p ∈ l', h'.get? p.1 = some p.2) → Q (.bool (prb (come gs) upper inner t sl c st).1) { s with heap := h', toks := tk' })
    (G : Grown [(un, listOf vu.toArray nu), (ov, listOf vo.toArray no), (lk, listOf vl.toArray nl), (218, tabObj (psOf c'))] s.heap g' L') (F : Fr g' L' h9 m9)
    (N : News g' L' h9 [(r, o3), (C, oc), (un, listOf vu.toArray nu), (ov, listOf (vo.toArray.push (.ref r)) (no + 1)), (lk, listOf (vl3 ++ [Value.ref r]).toArray (nl3 + 1)), (218, tabObj (psOf c'))])
    (ord : @LT.lt Nat _ 218 lk ∧ @LT.lt Nat _ lk un ∧ @LT.lt Nat _ un ov ∧ @LT.lt Nat _ ov L' ∧ @LT.lt Nat _ (L' + 1) r)
    (hu : vu.getLast? = some (.ref au)) (g5 : g'.get? au = some ou) (nau : au ∉ [un, ov, lk, 218]) (pu : IsPair ou st.u) (p3 : IsPair o3 q) (hr : inner (sl ++ [c]) st.u st.o = (q, rk)) (he : enoughB (come gs) upper t c q = true)
    (l1 : vl3.length = vl.length + rk) (l2 : vl.length = k0 + st.k) (l3 : vu.length ≤ st.k + 1) (l4 : vo.length ≤ st.k + 1) (hb : b = true) : Q (.bool b) { s with heap := h9, toks := tk } := by
  rw [prb_yes hr he] at h
  subst hb
  rw [List.push_toArray] at N
  obtain ⟨o1, o2, o3', o4, o5⟩ := ord
  refine h h9 tk [(un, listOf vu.toArray nu), (ov, listOf (vo ++ [Value.ref r]).toArray (no + 1)), (lk, listOf (vl3 ++ [Value.ref r]).toArray (nl3 + 1)), (218, tabObj (psOf c')), (au, ou), (r, o3)] (fun b o hb e => F.keep b o (G.up b o e (by simpa using hb)))
    ⟨_, _, _, _, _, _, au, r, ou, o3, rfl, hu, by simp, pu, p3, by rw [List.length_append, List.length_singleton]; dsimp only; omega, by dsimp only; omega, by rw [List.length_append, List.length_singleton]; dsimp only; omega, nau, ?_⟩ ?_
  · simp only [List.mem_cons, List.not_mem_nil, or_false]
    rintro ((z : @Eq Nat _ _) | (z : @Eq Nat _ _) | (z : @Eq Nat _ _) | (z : @Eq Nat _ _)) <;> omega
  · intro p hp
    simp only [List.mem_cons, List.not_mem_nil, or_false] at hp
    rcases hp with rfl | rfl | rfl | rfl | rfl | rfl
    · exact (N _ (.tail _ (.tail _ (.head _)))).1
    · exact (N _ (.tail _ (.tail _ (.tail _ (.head _))))).1
    · exact (N _ (.tail _ (.tail _ (.tail _ (.tail _ (.head _)))))).1
    · exact (N _ (.tail _ (.tail _ (.tail _ (.tail _ (.tail _ (.head _))))))).1
    · exact F.keep _ _ g5
    · exact (N _ (.head _)).1
theorem leaf_no (h : ∀ h' tk' l', KeepBut [un, ov, lk, 218] s.heap h' → LedL un ov lk c' k0 (prb (come gs) upper inner t sl c st).2 l' → (∀ p ∈ l', h'.get? p.1 = some p.2) → Q (.bool (prb (come gs) upper inner t sl c st).1) { s with heap := h', toks := tk' })
    (G : Grown [(un, listOf vu.toArray nu), (ov, listOf vo.toArray no), (lk, listOf vl.toArray nl), (218, tabObj (psOf c'))] s.heap g' L') (F : Fr g' L' h9 m9)
    (N : News g' L' h9 [(r, o3), (C, oc), (un, listOf (vu.toArray.push (.ref r)) (nu + 1)), (ov, listOf vo.toArray no), (lk, listOf (vl3 ++ [Value.ref r]).toArray (nl3 + 1)), (218, tabObj (psOf c'))])
    (ord : @LT.lt Nat _ 218 lk ∧ @LT.lt Nat _ lk un ∧ @LT.lt Nat _ un ov ∧ @LT.lt Nat _ ov L' ∧ @LT.lt Nat _ (L' + 1) r)
    (ho : vo.getLast? = some (.ref ao)) (g6 : g'.get? ao = some oo) (nao : ao ∉ [un, ov, lk, 218]) (po : IsPair oo st.o) (p3 : IsPair o3 q) (hr : inner (sl ++ [c]) st.u st.o = (q, rk)) (he : enoughB (come gs) upper t c q = false)
    (l1 : vl3.length = vl.length + rk) (l2 : vl.length = k0 + st.k) (l3 : vu.length ≤ st.k + 1) (l4 : vo.length ≤ st.k + 1) (hb : b = false) : Q (.bool b) { s with heap := h9, toks := tk } := by
  rw [prb_no hr he] at h
  subst hb
  rw [List.push_toArray] at N
  obtain ⟨o1, o2, o3', o4, o5⟩ := ord
  refine h h9 tk [(un, listOf (vu ++ [Value.ref r]).toArray (nu + 1)), (ov, listOf vo.toArray no), (lk, listOf (vl3 ++ [Value.ref r]).toArray (nl3 + 1)), (218, tabObj (psOf c')), (r, o3), (ao, oo)] (fun b o hb e => F.keep b o (G.up b o e (by simpa using hb)))
    ⟨_, _, _, _, _, _, r, ao, o3, oo, rfl, by simp, ho, p3, po, by rw [List.length_append, List.length_singleton]; dsimp only; omega, by rw [List.length_append, List.length_singleton]; dsimp only; omega, by dsimp only; omega, ?_, nao⟩ ?_
  · simp only [List.mem_cons, List.not_mem_nil, or_false]
    rintro ((z : @Eq Nat _ _) | (z : @Eq Nat _ _) | (z : @Eq Nat _ _) | (z : @Eq Nat _ _)) <;> omega
  · intro p hp
    simp only [List.mem_cons, List.not_mem_nil, or_false] at hp
    rcases hp with rfl | rfl | rfl | rfl | rfl | rfl
    · exact (N _ (.tail _ (.tail _ (.head _)))).1
    · exact (N _ (.tail _ (.tail _ (.tail _ (.head _))))).1
    · exact (N _ (.tail _ (.tail _ (.tail _ (.tail _ (.head _)))))).1
    · exact (N _ (.tail _ (.tail _ (.tail _ (.tail _ (.tail _ (.head _))))))).1
    · exact (N _ (.head _)).1
    · exact F.keep _ _ g6
end
section
variable {w : World} {p : Program} {loose : List Str} {mean : ExcName → Option Value} {mg mb : Str → Option Value}
local macro_rules | `(tactic| walk_at "call ref") => `(tactic| (refine Mine.hold ?_))
local macro_rules | `(tactic| walk_at "call ref") => `(tactic| (k_here; (with_reducible apply Mine.at139); k_dflt (apply Mine.get_allK; k_asm; k_asm; k_asm; k_asm; k_asm; rfl; ktr_room; (apply Mine.tabK; assumption; k_asm); decide; decide +kernel; k_whole); intro _ _ _ _ _ _ o1 _; (try simp only [LCg.Off1, and_true] at o1); (try dsimp only); (try k_sweep)))
local macro_rules | `(tactic| walk_at "call ref") => `(tactic| (k_here; (with_reducible apply Mine.at216); k_dflt (apply Mine.fitsK; k_asm; k_asm; k_asm; k_asm; k_asm; rfl; ktr_room; ktr_units; assumption; assumption; (apply Mine.listK; k_asm; k_mem; assumption; assumption); omega; omega; k_whole); intro _ _ _ _; (try dsimp only); (try k_sweep)))
local macro_rules | `(tactic| walk_at "call builtin:len") => `(tactic| (refine Mine.hold ?_))
local macro_rules | `(tactic| walk_at "binaryOp Add ref ref") => `(tactic| (refine Mine.hold ?_))
local macro_rules | `(tactic| walk_at "CompSrcT") => `(tactic| (refine Mine.hold ?_))
local macro_rules | `(tactic| walk_at "eval ListComp") => `(tactic| (k_here; lct_look; k_dflt (apply Mine.lcT; k_asm; with_unfolding_all rfl; decide; rfl; decide; rfl; (intro _; rfl); k_whole)))
local macro_rules | `(tactic| k_inst) => `(tactic| exact Mine.inst_base (by assumption) (by k_asm))
local macro_rules | `(tactic| walk_at "eval Name") => `(tactic| (k_here; (first | (with_reducible apply Mine.atN (Str.ofString "looks")) | (with_reducible apply Mine.atN (Str.ofString "over")) | (with_reducible apply Mine.atN (Str.ofString "seen")) | (with_reducible apply Mine.atN (Str.ofString "table")) | (with_reducible apply Mine.atN (Str.ofString "turn")) | (with_reducible apply Mine.atN (Str.ofString "under")) | (with_reducible apply Mine.atN (Str.ofString "upper"))); k_dflt (apply Mine.nameX_FB; k_asm; rfl; assumption; rfl; rfl; decide; decide; k_whole)))
local macro_rules | `(tactic| walk_at "subscriptTail Name UnaryOp ref int") => `(tactic| (k_here; k_dflt (apply Mine.item_last; k_asm; k_mem; assumption; omega; with_unfolding_all rfl; k_whole)))

set_option maxHeartbeats 16000000 in
theorem looked_ok {D D' k k0 t : Nat} {gs : List Guest} {upper : Bool} (hin : RestC w p loose mean mg mb D' gs upper k) (hD : D + 1 ≤ D') (hD' : D' ≤ 895) (hgs : GuestsOk gs) {x l lk un ov c' f se : Addr} {sv vs : List Value} {sl : List Nat} {cf : Addr → Value × Value × Value} {cs : Nat → Addr}
    (hsv : IntsAre sv (sl.map fun n => ((n : Nat) : Int))) (hsl : sl.length = t) (hk : t + k = 1) (hs9 : ∀ i ∈ sl, i ≤ 9) (hord : @LT.lt Nat _ 218 lk ∧ @LT.lt Nat _ lk un ∧ @LT.lt Nat _ un ov) (c : Nat) (v : Value) (hv : vs[c]? = some v) :
    KeyOk w p loose mean mg mb D [un, ov, lk, 218] (StaticL w gs upper x l lk un ov c' f se (Str.ofString "_law_rest.<locals>.looked") sv t vs cf cs) (LedL un ov lk c' k0) f (prb (come gs) upper (restF (come gs) upper k) t sl) (RL k0 k) c v := by
  intro dp un' gd cn cs' a ccd cl outer A₀ base h₀ L m s st l' Q E B F X T hfk hdp hun hadr hS hR hl hl0 h
  obtain ⟨vu, nu, vo, no, vl, nl, au, ao, ou, oo, rfl, hu, ho, pu, po, hvl, hvu, hvo, nau, nao⟩ := hl.at_
  obtain ⟨hc9, hu1, hu2, ho1, ho2, hcap⟩ := hR
  simp only [List.forall_mem_cons, List.not_mem_nil, false_implies, implies_true, and_true] at hl0 hadr
  obtain ⟨q1, q2, q3, q4, q5, q6⟩ := hl0
  have N : News h₀ L s.heap [(un, listOf vu.toArray nu), (ov, listOf vo.toArray no), (lk, listOf vl.toArray nl), (218, tabObj (psOf c'))] := by
    intro q hq
    simp only [List.mem_cons, List.not_mem_nil, or_false] at hq
    rcases hq with rfl | rfl | rfl | rfl
    · exact ⟨q1, hadr.1.2, hadr.1.1⟩
    · exact ⟨q2, hadr.2.1.2, hadr.2.1.1⟩
    · exact ⟨q3, hadr.2.2.1.2, hadr.2.2.1.1⟩
    · exact ⟨q4, hadr.2.2.2.2, hadr.2.2.2.1⟩
  obtain ⟨⟨doc, pm, ctv, hfn⟩, hrec, htab, hchd, hlooks, hover, hseen, htable, ⟨tkt, hturn⟩, hunder, hupper, hsvl, hspots⟩ := hS
  obtain ⟨b, tkb, rfl, hspot⟩ := hspots c v hv
  have k0s : ∀ b o, (hideAll s.heap [un, ov, lk, 218]).get? b = some o → s.heap.get? b = some o := fun b o e => of_hideAll _ e
  revert X; k_fill; intro X
  refine wpAny_call ?_
  refine codeX_MC1 (x := Str.ofString "spot") (v := .ref b) (cnm := Str.ofString "tried") B F X N T rfl rfl hfk (k0s _ _ hfn) rfl (hrec.keeps k0s) (by ktr_room) (BindsTo.of_eq rfl) rfl (fun _ => rfl) (fun _ => rfl) ?_ rfl rfl rfl
  intro g' L' h' G' F' N' B' X' T'
  obtain up : ∀ b o, (hideAll s.heap [un, ov, lk, 218]).get? b = some o → g'.get? b = some o := G'.hide
  obtain ⟨n1, n2, n3⟩ := hord
  obtain n4 : @LT.lt Nat _ ov L' := G'.lt _ _ q2
  obtain b1 := hlooks.keeps up
  obtain b2 := hover.keeps up
  obtain b3 := hseen.keeps up
  obtain b4 := htable.keeps up
  obtain b5 := hturn.keeps up
  obtain b6 := hunder.keeps up
  obtain b7 := hupper.keeps up
  obtain b8 : g'.IsList se sv.toArray := hsvl.at fun o e => up _ o e
  obtain b9 : g'.IsList b #[.int c tkb] := hspot.at fun o e => up _ o e
  obtain b10 := htab.keeps up
  obtain b11 := hchd.keeps up
  obtain b12 := hrec.keeps up
  obtain g5 : g'.get? au = some ou := G'.up _ _ q5 nau
  obtain g6 : g'.get? ao = some oo := G'.up _ _ q6 nao
  clear hlooks hover hseen htable hturn hunder hupper hsvl hspot htab hchd hrec hspots
  clear N q1 q2 q3 q4 q5 q6 hfn k0s up hadr hl hv X F T B
  obtain lsv := hsv.length
  rw [List.length_map] at lsv
  dsimp only [lookedBody, lookedScope]
  (try k_fold)
  k_steps
  refine unhold ?_
  refine kmk_add_ints (vs := sv) (ws := [.int c tkb]) (ns := sl.map fun n => ((n : Nat) : Int)) (ms := [((c : Nat) : Int)]) (by assumption) (by assumption) (b8.at fun o e => Fr.keep (by assumption) _ o e) (b9.at fun o e => Fr.keep (by assumption) _ o e) hsv (.cons _ _ .nil) ?_ (by rw [sizeLine_eq]; simp; omega)
  intro De ws' h' F' N' lD hI'
  k_lt lD
  k_sweep
  k_steps
  refine unhold ?_
  obtain ⟨pc1, pt1, pt2, pn, pd1⟩ := pu
  obtain ⟨pc2, pt3, pt4, pm, pd2⟩ := po
  have sub := fr_hide F' N' (adr := [lk, 218]) (fun a ha => by simp only [List.mem_cons, List.not_mem_nil, or_false] at ha; rcases ha with rfl | rfl; exact ⟨_, .tail _ (.tail _ (.tail _ (.tail _ (.head _))))⟩; exact ⟨_, .tail _ (.tail _ (.tail _ (.tail _ (.tail _ (.head _)))))⟩)
  have hDl := (N' _ (.head _)).1
  refine hin _ _ _ _ _ _ _ _ _ _ _ _ _ _ _ _ _ x l lk c' _ au ao _ _ (sl ++ [c]) st.u st.o vl nl pt1 pt2 pt3 pt4 B' F' X' T' rfl (by show dp + 1 < D'; omega) (by show un' + 3 < 3000 + 3 * (dp + 1); omega) (fun a ha => ?_)
    (b10.keeps sub) (b11.keeps sub) (b12.keeps sub) rfl ⟨_, hideAll_get _ hDl (by simp only [List.mem_cons, List.not_mem_nil, or_false]; exact fun z => z.elim (fun (z : @Eq Nat _ _) => by omega) (fun (z : @Eq Nat _ _) => by omega)), rfl, _, rfl⟩ (by simpa using hI') (by simp; omega) (by simpa [or_imp, forall_and] using ⟨hs9, hc9⟩)
    ⟨ou, sub _ _ g5, pc1, _, pd1⟩ hu1 hu2 ⟨oo, sub _ _ g6, pc2, _, pd2⟩ ho1 ho2 (N' _ (.tail _ (.tail _ (.tail _ (.tail _ (.head _)))))).1 (by omega) (N' _ (.tail _ (.tail _ (.tail _ (.tail _ (.tail _ (.head _))))))).1 n1 ?_
  · simp only [List.mem_cons, List.not_mem_nil, or_false] at ha
    rcases ha with rfl | rfl
    · exact ⟨(N' _ (.tail _ (.tail _ (.tail _ (.tail _ (.head _)))))).2.2, (N' _ (.tail _ (.tail _ (.tail _ (.tail _ (.head _)))))).2.1⟩
    · exact ⟨(N' _ (.tail _ (.tail _ (.tail _ (.tail _ (.tail _ (.head _))))))).2.2, (N' _ (.tail _ (.tail _ (.tail _ (.tail _ (.tail _ (.head _))))))).2.1⟩
  intro r h3 tk3 vl3 nl3 o3 kb3 e218 elk elen er pr fr
  obtain ⟨F3, N3, nr⟩ := after_rest F' N' lD.1 ⟨n1, n2, n3, n4, Nat.lt_succ_self _⟩ kb3 e218 elk er fr
  clear F' N' kb3 e218 elk er fr sub hDl hI' lD
  obtain ⟨prc, prt1, prt2, prn, prd⟩ := pr
  obtain hle := restF_le (come gs) upper k (sl ++ [c]) st.u st.o (snoc_le hs9 hc9) hu1 hu2 ho1 ho2
  obtain hcnt : (restF (come gs) upper k (sl ++ [c]) st.u st.o).2 ≤ capOf k := by
    rcases (show k = 0 ∨ k = 1 by omega) with rfl | rfl
    · exact Nat.le_of_eq (restF_zero _ _ _)
    · exact Nat.le_trans (restF_one _ ho1 ho2) (by decide)
  obtain ⟨dx, tk0, tvs, tn, hx1, hx2, -, -, hgl⟩ := b10.at_
  rw [List.length_map] at hgl
  obtain I' : InstAt g' x (instObj 200 dx) 200 (some (dictOf [⟨PyData.keyHash w.params (Str.ofString "_headers"), .str (Str.ofString "_headers") tk0, .ref l⟩] 1)) := ⟨hx1, rfl, rfl, hx2⟩
  generalize hres : restF (come gs) upper k (sl ++ [c]) st.u st.o = res at *
  obtain ⟨⟨rx, ry⟩, rk⟩ := res
  dsimp only at prd elen hle hcnt
  obtain hv3 : vl3.length ≤ 1000000 := by omega
  obtain hvu3 : vu.length ≤ 1000001 := by omega
  obtain hvo3 : vo.length ≤ 1000001 := by omega
  clear hin
  obtain ⟨oc9, hoc9⟩ : ∃ oc9 : Obj, oc9 = { cls := Value.type "cell", data := Data.cell none } := ⟨_, rfl⟩
  rw [← hoc9] at N3
  obtain d0 : oc9.data = Data.cell none := by rw [hoc9]
  clear hoc9
  rcases (show t = 0 ∨ t = 1 by omega) with rfl | rfl
  · (try dsimp only); (try k_fold)
    k_steps
    rename_i F9 N9 hy9 o19
    rw [crowd_rows hgs (c := 0) fun k hk => (lower_name k hk).1] at hy9
    have hyl := StrsAre.length hy9
    rw [List.length_map] at hyl
    have hcl := crowd_len gs 0
    refine unhold ?_
    refine LCt.CompSrcT.ledger rfl F9 N9 (.head _) (by rw [List.size_toArray, PySem.sizeLine_eq]; omega) ?_
    intro gg
    refine rest_texts (fun (q : Nat × Nat) v => ∃ t, v = .str (txt q.1 q.2) t ∧ q.1 < 5 ∧ q.2 < 5) (fun q => fitsP q (rx, ry)) (fun q => txt q.1 q.2) (ks := crowd gs 0) (by rw [List.size_toArray]; exact hyl.symm) (fun i v _ hv => texts_at hgs hy9 i v (by simpa using hv)) ?_ ?_
    · intro q v I oI C oC D m₂ ys2 h' tk E' hq hv hC hx' F' N' off ne
      obtain ⟨tq, rfl, hq1, hq2⟩ := hv
      obtain ⟨qi, qj⟩ := q
      dsimp only at hq1 hq2 hx'
      (try dsimp only); (try k_fold)
      k_steps
      all_goals (try dsimp only)
      · rename_i q
        exact CompEnd.intro (by assumption) (by assumption) _ (fun p hp => hp) off (.inr ⟨_, .head _, rfl, _, rfl⟩) ⟨rfl, q.symm, fun _ => ⟨_, rfl⟩⟩
      · rename_i q
        exact CompEnd.intro (by assumption) (by assumption) _ (fun p hp => hp) off (.inr ⟨_, .head _, rfl, _, rfl⟩) ⟨rfl, q.symm, fun e => absurd (e.symm.trans q) (by decide)⟩
    · intro ys2 hys2
      obtain hl2 : ys2.length = come gs 0 (rx, ry) := by rw [StrsAre.length hys2, List.length_map]; rfl
      obtain hcb : come gs 0 (rx, ry) ≤ 1000 := by
        have := List.length_filter_le (fun q => fitsP q (rx, ry)) (crowd gs 0)
        show (List.filter _ _).length ≤ 1000
        omega
      (try dsimp only)
      k_steps
      refine unhold ?_
      refine len_list (items := ys2.toArray) ⟨_, (News.get (by assumption) (.head _)), rfl, _, rfl⟩ (by rw [List.size_toArray]; omega) ?_
      rename_i F' N' o1'
      rw [List.size_toArray, hl2]
      replace N' := fun p hp => N' p (.tail _ (.tail _ (.tail _ hp)))
      clear o1' o19 hy9 hyl N9 F9
      generalize hcm : come gs 0 (rx, ry) = cm at *
      (try dsimp only)
      k_steps
      all_goals (try dsimp only); all_goals (try k_unfold); all_goals (try dsimp only)
      · rename_i e2 _ _ F9 N9
        obtain e1 : upper = true := by assumption
        subst e1
        replace e2 : ((cm : Int) < (c : Int)) := e2
        exact leaf_yes h G' F9 N9 ⟨n1, n2, n3, n4, nr⟩ hu g5 nau ⟨pc1, _, _, _, pd1⟩ ⟨prc, _, _, _, prd⟩ hres (by unfold enoughB; rw [hcm]; simp; omega) elen hvl hvu hvo (decide_eq_true e2)
      · rename_i e2 _ _ F9 N9
        obtain e1 : upper = true := by assumption
        subst e1
        replace e2 : ¬ ((cm : Int) < (c : Int)) := e2
        exact leaf_no h G' F9 N9 ⟨n1, n2, n3, n4, nr⟩ ho g6 nao ⟨pc2, _, _, _, pd2⟩ ⟨prc, _, _, _, prd⟩ hres (by unfold enoughB; rw [hcm]; simp; omega) elen hvl hvu hvo (decide_eq_false e2)
      · rename_i e2 _ _ F9 N9
        obtain e1 : upper = false := by assumption
        subst e1
        replace e2 : ((cm : Int) ≤ (c : Int)) := e2
        exact leaf_yes h G' F9 N9 ⟨n1, n2, n3, n4, nr⟩ hu g5 nau ⟨pc1, _, _, _, pd1⟩ ⟨prc, _, _, _, prd⟩ hres (by unfold enoughB; rw [hcm]; simp; omega) elen hvl hvu hvo (decide_eq_true e2)
      · rename_i e2 _ _ F9 N9
        obtain e1 : upper = false := by assumption
        subst e1
        replace e2 : ¬ ((cm : Int) ≤ (c : Int)) := e2
        exact leaf_no h G' F9 N9 ⟨n1, n2, n3, n4, nr⟩ ho g6 nao ⟨pc2, _, _, _, pd2⟩ ⟨prc, _, _, _, prd⟩ hres (by unfold enoughB; rw [hcm]; simp; omega) elen hvl hvu hvo (decide_eq_false e2)
  · (try dsimp only); (try k_fold)
    k_steps
    rename_i F9 N9 hy9 o19
    rw [crowd_rows hgs (c := 1) fun k hk => (lower_name k hk).2.1] at hy9
    have hyl := StrsAre.length hy9
    rw [List.length_map] at hyl
    have hcl := crowd_len gs 1
    refine unhold ?_
    refine LCt.CompSrcT.ledger rfl F9 N9 (.head _) (by rw [List.size_toArray, PySem.sizeLine_eq]; omega) ?_
    intro gg
    refine rest_texts (fun (q : Nat × Nat) v => ∃ t, v = .str (txt q.1 q.2) t ∧ q.1 < 5 ∧ q.2 < 5) (fun q => fitsP q (rx, ry)) (fun q => txt q.1 q.2) (ks := crowd gs 1) (by rw [List.size_toArray]; exact hyl.symm) (fun i v _ hv => texts_at hgs hy9 i v (by simpa using hv)) ?_ ?_
    · intro q v I oI C oC D m₂ ys2 h' tk E' hq hv hC hx' F' N' off ne
      obtain ⟨tq, rfl, hq1, hq2⟩ := hv
      obtain ⟨qi, qj⟩ := q
      dsimp only at hq1 hq2 hx'
      (try dsimp only); (try k_fold)
      k_steps
      all_goals (try dsimp only)
      · rename_i q
        exact CompEnd.intro (by assumption) (by assumption) _ (fun p hp => hp) off (.inr ⟨_, .head _, rfl, _, rfl⟩) ⟨rfl, q.symm, fun _ => ⟨_, rfl⟩⟩
      · rename_i q
        exact CompEnd.intro (by assumption) (by assumption) _ (fun p hp => hp) off (.inr ⟨_, .head _, rfl, _, rfl⟩) ⟨rfl, q.symm, fun e => absurd (e.symm.trans q) (by decide)⟩
    · intro ys2 hys2
      obtain hl2 : ys2.length = come gs 1 (rx, ry) := by rw [StrsAre.length hys2, List.length_map]; rfl
      obtain hcb : come gs 1 (rx, ry) ≤ 1000 := by
        have := List.length_filter_le (fun q => fitsP q (rx, ry)) (crowd gs 1)
        show (List.filter _ _).length ≤ 1000
        omega
      (try dsimp only)
      k_steps
      refine unhold ?_
      refine len_list (items := ys2.toArray) ⟨_, (News.get (by assumption) (.head _)), rfl, _, rfl⟩ (by rw [List.size_toArray]; omega) ?_
      rename_i F' N' o1'
      rw [List.size_toArray, hl2]
      replace N' := fun p hp => N' p (.tail _ (.tail _ (.tail _ hp)))
      clear o1' o19 hy9 hyl N9 F9
      generalize hcm : come gs 1 (rx, ry) = cm at *
      (try dsimp only)
      k_steps
      all_goals (try dsimp only); all_goals (try k_unfold); all_goals (try dsimp only)
      · rename_i e2 _ _ F9 N9
        obtain e1 : upper = true := by assumption
        subst e1
        replace e2 : ((cm : Int) < (c : Int)) := e2
        exact leaf_yes h G' F9 N9 ⟨n1, n2, n3, n4, nr⟩ hu g5 nau ⟨pc1, _, _, _, pd1⟩ ⟨prc, _, _, _, prd⟩ hres (by unfold enoughB; rw [hcm]; simp; omega) elen hvl hvu hvo (decide_eq_true e2)
      · rename_i e2 _ _ F9 N9
        obtain e1 : upper = true := by assumption
        subst e1
        replace e2 : ¬ ((cm : Int) < (c : Int)) := e2
        exact leaf_no h G' F9 N9 ⟨n1, n2, n3, n4, nr⟩ ho g6 nao ⟨pc2, _, _, _, pd2⟩ ⟨prc, _, _, _, prd⟩ hres (by unfold enoughB; rw [hcm]; simp; omega) elen hvl hvu hvo (decide_eq_false e2)
      · rename_i e2 _ _ F9 N9
        obtain e1 : upper = false := by assumption
        subst e1
        replace e2 : ((cm : Int) ≤ (c : Int)) := e2
        exact leaf_yes h G' F9 N9 ⟨n1, n2, n3, n4, nr⟩ hu g5 nau ⟨pc1, _, _, _, pd1⟩ ⟨prc, _, _, _, prd⟩ hres (by unfold enoughB; rw [hcm]; simp; omega) elen hvl hvu hvo (decide_eq_true e2)
      · rename_i e2 _ _ F9 N9
        obtain e1 : upper = false := by assumption
        subst e1
        replace e2 : ¬ ((cm : Int) ≤ (c : Int)) := e2
        exact leaf_no h G' F9 N9 ⟨n1, n2, n3, n4, nr⟩ ho g6 nao ⟨pc2, _, _, _, pd2⟩ ⟨prc, _, _, _, prd⟩ hres (by unfold enoughB; rw [hcm]; simp; omega) elen hvl hvu hvo (decide_eq_false e2)
end

end

-- part C10
section
theorem fresh_C10 : True := by w_top off; trivial
local macro_rules | `(tactic| walk_at "zz9") => `(tactic| fail)
open LCg LCt
section
variable {w : World} {p : Program} {loose : List Str} {mean : ExcName → Option Value} {mg mb : Str → Option Value}
local macro_rules | `(tactic| walk_at "exec Assign") => `(tactic| (refine Mine.hold ?_))
set_option maxHeartbeats 16000000 in
theorem rest_zero {D : Nat} {gs : List Guest} {upper : Bool} (hD : D ≤ 900) : RestC w p loose mean mg mb D gs upper 0 := by
  intro dp un gd cn cs a ccd cl outer A₀ base h₀ L m s Q E x l lk c' se lo hi qual sv sl low high vl nl t1 t2 t3 t4 B F X T hk hdp hun hadr htab hchd hrec hqual hse hsv hsl hs9 hlo hlo1 hlo2 hhi hhi1 hhi2 hlk hcap h218 hne h
  simp only [List.forall_mem_cons, List.not_mem_nil, false_implies, implies_true, and_true] at hadr
  obtain N : News h₀ L s.heap [(lk, listOf vl.toArray nl), (218, tabObj (psOf c'))] := by
    intro q hq
    simp only [List.mem_cons, List.not_mem_nil, or_false] at hq
    rcases hq with rfl | rfl
    · exact ⟨hlk, hadr.1.2, hadr.1.1⟩
    · exact ⟨h218, hadr.2.2, hadr.2.1⟩
  revert X; k_fill; intro X
  refine wpAny_call ?_
  k_dflt ktr_enter
  intro g' L' h' tk' cells' G' F' N' Y' B' X' T'
  obtain ⟨co1, co2, co3, co4, co5, co6, co7, hE, d1', d2', d3', d4', d5', d6', d7'⟩ := PyProof.Rows.kc_seven Y'
  subst hE
  clear Y'
  (try simp only [List.cons_append, List.nil_append] at N')
  replace d1' : Obj.data _ = Data.cell none := d1'
  replace d2' : Obj.data _ = Data.cell none := d2'
  replace d3' : Obj.data _ = Data.cell none := d3'
  replace d4' : Obj.data _ = Data.cell (some (.bool upper)) := d4'
  replace d5' : Obj.data _ = Data.cell (some (.ref se)) := d5'
  replace d6' : Obj.data _ = Data.cell (some (.ref lk)) := d6'
  replace d7' : Obj.data _ = Data.cell (some (.ref x)) := d7'
  have up := G'.hide
  simp only [List.map_cons, List.map_nil] at up
  obtain hse' : g'.IsList se sv.toArray := hse.at fun o e => up _ o e
  obtain lsv := hsv.length
  rw [List.length_map] at lsv
  clear htab hchd hrec hlo hhi hlk h218 hadr up
  (try dsimp only); (try k_fold)
  k_steps
  · (try dsimp only); (try k_unfold); (try dsimp only)
    obtain ⟨os, ho1, ho2, n9, ho3⟩ := hse'
    obtain ⟨i, j, rfl⟩ := two_of hsl
    obtain ⟨t5, t6, rfl⟩ : ∃ t5 t6, sv = [.int i t5, .int j t6] := by
      cases hsv with
      | cons _ t5 r => cases r with
        | cons _ t6 r => cases r; exact ⟨t5, t6, rfl⟩
    refine h se _ _ vl nl os (fun b o hb e => F'.keep b o (G'.up b o e (by simpa using hb))) (News.get N' (by simp)) (News.get N' (by simp)) rfl (F'.keep _ _ ho1) ⟨ho2, t5, t6, n9, ho3⟩ (.inl rfl)
end

section
variable {prog : Program} {w : World} {A : Around} {h₀ : Heap} {L : Addr} {m : Str → Option Value} {env : Env} {elt : Expr} {x : Str} {scope : Scope} {cl : List (Str × Addr)} {s : Shared} {Fin : List Value → List (Addr × Obj) → Prop} {base : List (Addr × Obj)}
/-- a comprehension over a range whose items are new lists of one int each -/
theorem rest_spots {n : Nat} (turn : ∀ (i : Nat) t I oI C oC D m₂ ys news h tk (E' : Value → Shared → Prop), i < n → NsObj oC m₂ → m₂ x = some (.int (i : Int) t) → Fr h₀ L h m → News h₀ L h ((I, oI) :: (C, oC) :: (D, lst ys) :: news) → Off3 I C D news → ((@Ne Nat I C) ∧ (@Ne Nat I D) ∧ (@Ne Nat C D)) →
      wpAny (model prog w) A (eval elt (compEnvC scope cl C env)) (CompEnd h₀ L m { s with heap := h, toks := tk } I oI C oC D (lst ys) (fun _ => True) (fun y news' => ∃ b tk' nn, y = .ref b ∧ news' = (b, listOf [Value.int (i : Int) tk'].toArray nn) :: news ∧ ∀ p ∈ news, @LT.lt Nat _ p.1 b)) E' { s with heap := h, toks := tk })
    (fin : ∀ ys ex, ys.length = n → (∀ (c : Nat) (v : Value), ys[c]? = some v → ∃ b tk nn, v = .ref b ∧ (b, listOf [Value.int (c : Int) tk].toArray nn) ∈ ex ∧ ∀ p ∈ base, @LT.lt Nat _ p.1 b) → Fin ys (ex ++ base)) :
    CompRest prog w A h₀ L m env elt x scope cl s (fun _ => True) (fun i v => ∃ t, v = .int (0 + (i : Int)) t) Fin n 0 [] base := by
  have key : ∀ (j i : Nat) (ys : List Value) (ex : List (Addr × Obj)), i + j = n → ys.length = i → (∀ (c : Nat) (v : Value), ys[c]? = some v → ∃ b tk nn, v = .ref b ∧ (b, listOf [Value.int (c : Int) tk].toArray nn) ∈ ex ∧ ∀ p ∈ base, @LT.lt Nat _ p.1 b) →
      CompRest prog w A h₀ L m env elt x scope cl s (fun _ => True) (fun i v => ∃ t, v = .int (0 + (i : Int)) t) Fin j i ys (ex ++ base) := by
    intro j
    induction j with
    | zero => intro i ys ex hi hy hx; exact CompRest.zero (fin ys ex (by omega) hx)
    | succ j ih =>
      intro i ys ex hi hy hx
      refine CompRest.succ ?_
      rintro v I oI C oC D m₂ h tk E' ⟨t, rfl⟩ hC hx' F N off ne
      rw [Int.zero_add] at hx'
      refine wpAny_mono (turn i t I oI C oC D m₂ ys _ h tk E' (by omega) hC hx' F N off ne) (fun y s₂ hq => ?_) fun _ _ e => e
      obtain ⟨h', tk', nw, e, F', N', off', hS, b, tb, nn, rfl, rfl, hlt⟩ := hq
      refine ⟨h', tk', _, e, F', N', off', trivial, ?_⟩
      rw [← List.cons_append]
      refine ih (i + 1) _ _ (by omega) (by rw [List.length_append, List.length_singleton]; omega) ?_
      intro c v hc
      by_cases hci : c < i
      · rw [List.getElem?_append_left (by omega)] at hc
        obtain ⟨b', tk', nn', e, hm, hl⟩ := hx c v hc
        exact ⟨b', tk', nn', e, .tail _ hm, hl⟩
      · rw [List.getElem?_append_right (by omega)] at hc
        have : c = i := by
          have := (List.getElem?_eq_some_iff.mp hc).1
          simp at this; omega
        subst this
        rw [hy, Nat.sub_self] at hc
        simp at hc
        exact ⟨b, tb, nn, hc.symm, .head _, fun p hp => hlt p (List.mem_append_right _ hp)⟩
  exact key n 0 [] [] (by omega) rfl (fun c v h => by simp at h)
end
theorem isPair_notNs {o : Obj} {q : Nat × Nat} (x : IsPair o q) : NotNs o := by
  obtain ⟨_, t, u, n, e⟩ := x
  intro es k h
  rw [e] at h; cases h
theorem ledL_ok {un ov lk c' : Addr} {k0 : Nat} : ∀ st l, LedL un ov lk c' k0 st l → (∀ q ∈ l, NotNs q.2) ∧ ∀ a ∈ [un, ov, lk, 218], ∃ o, (a, o) ∈ l := by
  intro st l x
  obtain ⟨vu, nu, vo, no, vl, nl, au, ao, ou, oo, rfl, _, _, pu, po, _⟩ := x.at_
  refine ⟨fun q hq => ?_, fun a ha => ?_⟩
  · simp only [List.mem_cons, List.not_mem_nil, or_false] at hq
    rcases hq with rfl | rfl | rfl | rfl | rfl | rfl
    · intro es k h; cases h
    · intro es k h; cases h
    · intro es k h; cases h
    · intro es k h; cases h
    · exact isPair_notNs pu
    · exact isPair_notNs po
  · simp only [List.mem_cons, List.not_mem_nil, or_false] at ha
    rcases ha with rfl | rfl | rfl | rfl
    · exact ⟨_, .head _⟩
    · exact ⟨_, .tail _ (.head _)⟩
    · exact ⟨_, .tail _ (.tail _ (.head _))⟩
    · exact ⟨_, .tail _ (.tail _ (.tail _ (.head _)))⟩
theorem StaticL.keeps {w : World} {gs : List Guest} {upper : Bool} {x l lk un ov c' f se : Addr} {qual : Str} {sv : List Value} {t : Nat} {vs : List Value} {cf : Addr → Value × Value × Value} {cs : Nat → Addr} :
    ∀ g h, (∀ b o, g.get? b = some o → h.get? b = some o) → StaticL w gs upper x l lk un ov c' f se qual sv t vs cf cs g → StaticL w gs upper x l lk un ov c' f se qual sv t vs cf cs h := by
  rintro g h k ⟨⟨doc, pm, ctv, hfn⟩, hrec, htab, hchd, hlooks, hover, hseen, htable, ⟨tkt, hturn⟩, hunder, hupper, hsvl, hspots⟩
  refine ⟨⟨doc, pm, ctv, k _ _ hfn⟩, hrec.keeps k, htab.keeps k, hchd.keeps k, hlooks.keeps k, hover.keeps k, hseen.keeps k, htable.keeps k, ⟨tkt, hturn.keeps k⟩, hunder.keeps k, hupper.keeps k, hsvl.at fun o e => k _ o e, fun c v hv => ?_⟩
  obtain ⟨b, tk, e, hb⟩ := hspots c v hv
  exact ⟨b, tk, e, hb.at fun o e => k _ o e⟩
def PiR (k0 k : Nat) (lo hi : Nat) (st : St) : Prop := hi ≤ 10 ∧ st.le9 ∧ k0 + st.k + (capOf k + 1) * (hi - lo) + capOf k ≤ 1000000
theorem prb_k {f : Nat → Nat × Nat → Nat} {upper : Bool} {inner : List Nat → Nat × Nat → Nat × Nat → (Nat × Nat) × Nat} {t m c : Nat} {seen : List Nat} {st : St} (hi : (inner (seen ++ [c]) st.u st.o).2 ≤ m) : (prb f upper inner t seen c st).2.k ≤ st.k + (m + 1) := by
  unfold prb
  split <;> dsimp only <;> omega
theorem restF_cap {f : Nat → Nat × Nat → Nat} {upper : Bool} {k : Nat} (hk : k ≤ 1) (s : List Nat) {u o : Nat × Nat} (h1 : o.1 ≤ 9) (h2 : o.2 ≤ 9) : (restF f upper k s u o).2 ≤ capOf k := by
  rcases (show k = 0 ∨ k = 1 by omega) with rfl | rfl
  · exact Nat.le_refl _
  · exact Nat.le_trans (restF_one s h1 h2) (by decide)
theorem piR_step {f : Nat → Nat × Nat → Nat} {upper : Bool} {k0 k t : Nat} {sl : List Nat} (hk : k ≤ 1) (hs : ∀ i ∈ sl, i ≤ 9) (lo hi : Nat) (st : St) (hlt : lo < hi) (h : PiR k0 k lo hi st) : RL k0 k ((lo + hi) / 2) st ∧
    if (prb f upper (restF f upper k) t sl ((lo + hi) / 2) st).1 = true then PiR k0 k lo ((lo + hi) / 2) (prb f upper (restF f upper k) t sl ((lo + hi) / 2) st).2 else PiR k0 k ((lo + hi) / 2 + 1) hi (prb f upper (restF f upper k) t sl ((lo + hi) / 2) st).2 := by
  obtain ⟨a, ⟨b1, b2, b3, b4⟩, c⟩ := h
  have hc : (lo + hi) / 2 ≤ 9 := by omega
  have hle := restF_le f upper k (sl ++ [(lo + hi) / 2]) st.u st.o (snoc_le hs hc) b1 b2 b3 b4
  have h9 := prb_le (f := f) (upper := upper) (inner := restF f upper k) (t := t) (seen := sl) (c := (lo + hi) / 2) (st := st) ⟨b1, b2, b3, b4⟩ hle
  have hk' := prb_k (f := f) (upper := upper) (inner := restF f upper k) (t := t) (seen := sl) (c := (lo + hi) / 2) (st := st) (restF_cap hk _ b3 b4)
  have m1 : (capOf k + 1) * ((lo + hi) / 2 - lo) + (capOf k + 1) ≤ (capOf k + 1) * (hi - lo) := by
    rw [← Nat.mul_succ]; exact Nat.mul_le_mul_left _ (by omega)
  have m2 : (capOf k + 1) * (hi - ((lo + hi) / 2 + 1)) + (capOf k + 1) ≤ (capOf k + 1) * (hi - lo) := by
    rw [← Nat.mul_succ]; exact Nat.mul_le_mul_left _ (by omega)
  refine ⟨⟨hc, b1, b2, b3, b4, by omega⟩, ?_⟩
  split
  · exact ⟨by omega, h9, by omega⟩
  · exact ⟨a, h9, by omega⟩
theorem piR_end {f : Nat → Nat × Nat → Nat} {upper : Bool} {k0 k t : Nat} {sl : List Nat} (hk : k ≤ 1) (hs : ∀ i ∈ sl, i ≤ 9) {lo hi : Nat} {st : St} (hlt : lo ≤ 10) (h : PiR k0 k lo hi st) :
    PiR k0 k (bis (prb f upper (restF f upper k) t sl) (hi - lo) lo hi st).1 (bis (prb f upper (restF f upper k) t sl) (hi - lo) lo hi st).1 (bis (prb f upper (restF f upper k) t sl) (hi - lo) lo hi st).2 := by
  by_cases hl : lo ≤ hi
  · exact bis_all _ (PiR k0 k) (fun lo hi st a b => (piR_step hk hs lo hi st a b).2) _ lo hi st (Nat.le_refl _) hl h
  · rw [bis_end _ (by omega)]
    obtain ⟨a, b, c⟩ := h
    refine ⟨hlt, b, ?_⟩
    dsimp only
    rw [Nat.sub_self, Nat.mul_zero]
    omega

end

-- part C11
section
theorem fresh_C11 : True := by w_top off; trivial
local macro_rules | `(tactic| walk_at "zz9") => `(tactic| fail)
open LCg LCt
theorem news_swap {g h : Heap} {L : Addr} {a : Addr × Obj} {ex base : List (Addr × Obj)} (N : News g L h (a :: (ex ++ base))) : News g L h (a :: (base ++ ex)) := fun q hq => N q (by
  rcases List.mem_cons.mp hq with rfl | hq
  · exact .head _
  · exact .tail _ (List.mem_append.mpr (List.mem_append.mp hq).symm))
theorem isPair_at {h : Heap} {b : Addr} {q : Nat × Nat} {t u : Tok} (x : h.IsList b #[.int q.1 t, .int q.2 u]) : ∃ o, h.get? b = some o ∧ IsPair o q :=
  by obtain ⟨o, e, c, n, d⟩ := x; exact ⟨o, e, c, t, u, n, d⟩


section
variable {w : World} {p : Program} {loose : List Str} {mean : ExcName → Option Value} {mg mb : Str → Option Value}
    {dp un : Nat} {gd : Option (List Code)} {cn : Str} {cs : Scope} {a : Addr} {ccd : Value} {cl : List (Str × Addr)} {outer : List Env} {A₀ : Around} {base h₀ : Heap} {L : Addr} {m : Str → Option Value} {s : Shared}
    {Q E : Value → Shared → Prop}
set_option maxHeartbeats 8000000 in
theorem bis_left_hit {D D' k t : Nat} {gs : List Guest} (hin : RestC w p loose mean mg mb D' gs false k) (hD : D + 1 ≤ D') (hD' : D' ≤ 895) (hgs : GuestsOk gs)
    (B : Below A₀ base outer h₀) (F : Fr h₀ L s.heap m) (X : (hd.heap_39 w.params).In h₀) (T : Top p loose mean mg mb h₀) (hk : cs.kind = .function) (hdp : dp + 1 < D) (hun : un < 3000 + 3 * dp)
    {x l lk un' ov c' f se sp tp lo hi a1 a2 a3 a4 a5 a6 a7 : Addr} {otp o1 o2 o3 o4 o5 o6 o7 : Obj} {doc pm ctv : Value} {ys sv vl : List Value} {sl : List Nat} {no nu nl : Nat} {ex : List (Addr × Obj)} {low high : Nat × Nat} {t1 t2 t3 t4 t5 t6 t7 : Tok}
    (N : News h₀ L s.heap ((sp, lst ys) :: (f, fnMade (Str.ofString "looked") (Str.ofString "_law_rest.<locals>.looked") lookedParams.1 lookedBody.1 lookedScope.1 [(Str.ofString "upper", a4), (Str.ofString "under", a7), (Str.ofString "turn", a6), (Str.ofString "table", a1), (Str.ofString "seen", a3), (Str.ofString "over", a5), (Str.ofString "looks", a2)] doc pm c' ctv) :: (tp, otp) :: (ov, listOf #[Value.ref hi] no) :: (un', listOf #[Value.ref lo] nu) :: (a7, o7) :: (a6, o6) :: (a5, o5) :: (a4, o4) :: (a3, o3) :: (a2, o2) :: (a1, o1) :: (lk, listOf vl.toArray nl) :: (218, tabObj (psOf c')) :: ex))
    (d1 : o1.data = .cell (some (.ref x))) (d2 : o2.data = .cell (some (.ref lk))) (d3 : o3.data = .cell (some (.ref se))) (d4 : o4.data = .cell (some (.bool false))) (d5 : o5.data = .cell (some (.ref ov))) (d6 : o6.data = .cell (some (.int (t : Int) t7))) (d7 : o7.data = .cell (some (.ref un')))
    (hord : @LT.lt Nat _ 218 lk ∧ @LT.lt Nat _ lk a1 ∧ @LT.lt Nat _ a1 a2 ∧ @LT.lt Nat _ a2 a3 ∧ @LT.lt Nat _ a3 a4 ∧ @LT.lt Nat _ a4 a5 ∧ @LT.lt Nat _ a5 a6 ∧ @LT.lt Nat _ a6 a7 ∧ @LT.lt Nat _ a7 un' ∧ @LT.lt Nat _ un' ov ∧ @LT.lt Nat _ ov f) (hspn : @Ne Nat sp un' ∧ @Ne Nat sp ov ∧ @Ne Nat sp lk ∧ @Ne Nat sp 218)
    (hsp : ∀ (c : Nat) (v : Value), ys[c]? = some v → ∃ b tk nn, v = .ref b ∧ (b, listOf [Value.int (c : Int) tk].toArray nn) ∈ ex ∧ @LT.lt Nat _ ov b) (hyl : ys.length = getP high t + 1)
    (hse : h₀.IsList se sv.toArray) (hsv : IntsAre sv (sl.map fun n => ((n : Nat) : Int))) (hsl : sl.length = t) (htk : t + k = 1) (hs9 : ∀ i ∈ sl, i ≤ 9)
    (htab : TableAt h₀ w.params x l (gs.map rowOf)) (hchd : CodeHd h₀ 220 218) (hrec : h₀.CodeRec (.ref c') (Str.ofString "_law_rest.<locals>.looked"))
    (hlo : h₀.IsList lo #[.int low.1 t1, .int low.2 t2]) (hhi : h₀.IsList hi #[.int high.1 t3, .int high.2 t4]) (hlo1 : low.1 ≤ 9) (hlo2 : low.2 ≤ 9) (hhi1 : high.1 ≤ 9) (hhi2 : high.2 ≤ 9)
    (hcap : vl.length + capOf (k + 1) ≤ 1000000)
    (h : ∀ h' tk' t' vu nu vo no vl' nl' au ao ou oo ex', Fr h₀ L h' m → News h₀ L h' ((a7, o7) :: (a6, o6) :: (a5, o5) :: (a4, o4) :: (a3, o3) :: (a2, o2) :: (a1, o1) :: (un', listOf vu.toArray nu) :: (ov, listOf vo.toArray no) :: (lk, listOf vl'.toArray nl') :: (218, tabObj (psOf c')) :: ex') → (vu : List Value).getLast? = some (.ref au) → (vo : List Value).getLast? = some (.ref ao) → vu.length ≤ 1000001 → vo.length ≤ 1000001 →
      (h₀.get? au = some ou ∨ (au, ou) ∈ ex') → (h₀.get? ao = some oo ∨ (ao, oo) ∈ ex') → au ∉ [lk, 218] → ao ∉ [lk, 218] → IsPair ou (bis (prb (come gs) false (restF (come gs) false k) t sl) (getP high t + 0 - (getP low t + 0)) (getP low t + 0) (getP high t + 0) ⟨low, high, 0⟩).2.u → IsPair oo (bis (prb (come gs) false (restF (come gs) false k) t sl) (getP high t + 0 - (getP low t + 0)) (getP low t + 0) (getP high t + 0) ⟨low, high, 0⟩).2.o → (vl' : List Value).length = vl.length + (bis (prb (come gs) false (restF (come gs) false k) t sl) (getP high t + 0 - (getP low t + 0)) (getP low t + 0) (getP high t + 0) ⟨low, high, 0⟩).2.k → (bis (prb (come gs) false (restF (come gs) false k) t sl) (getP high t + 0 - (getP low t + 0)) (getP low t + 0) (getP high t + 0) ⟨low, high, 0⟩).2.le9 → vl.length + (bis (prb (come gs) false (restF (come gs) false k) t sl) (getP high t + 0 - (getP low t + 0)) (getP low t + 0) (getP high t + 0) ⟨low, high, 0⟩).2.k + capOf k ≤ 1000000 →
      getP low t + 0 ≤ (bis (prb (come gs) false (restF (come gs) false k) t sl) (getP high t + 0 - (getP low t + 0)) (getP low t + 0) (getP high t + 0) ⟨low, high, 0⟩).1 → (bis (prb (come gs) false (restF (come gs) false k) t sl) (getP high t + 0 - (getP low t + 0)) (getP low t + 0) (getP high t + 0) ⟨low, high, 0⟩).1 ≤ 9 + 0 → Q (.int ((bis (prb (come gs) false (restF (come gs) false k) t sl) (getP high t + 0 - (getP low t + 0)) (getP low t + 0) (getP high t + 0) ⟨low, high, 0⟩).1 : Nat) t') { s with heap := h', toks := tk' }) :
    wpAny (model PySem.Challenge.rw_ph0161_01.row.prog w) (ktrTop dp un gd cn cs L a ccd cl outer) (call (.ref 56) [.ref sp, .bool true, .int ((getP low t + 0 : Nat) : Int) t5, .int ((getP high t + 0 : Nat) : Int) t6] [(Str.ofString "key", .ref f)]) Q E s := by
  obtain ⟨q1, q2, q3, q4, q5, q6, q7, q8, q9, q10, q11⟩ := hord
  have n_un := N (un', listOf #[Value.ref lo] nu) (.tail _ (.tail _ (.tail _ (.tail _ (.head _)))))
  have n_ov := N (ov, listOf #[Value.ref hi] no) (.tail _ (.tail _ (.tail _ (.head _))))
  have n_lk := N (lk, listOf vl.toArray nl) (.tail _ (.tail _ (.tail _ (.tail _ (.tail _ (.tail _ (.tail _ (.tail _ (.tail _ (.tail _ (.tail _ (.tail _ (.head _)))))))))))))
  have n_218 := N (218, tabObj (psOf c')) (.tail _ (.tail _ (.tail _ (.tail _ (.tail _ (.tail _ (.tail _ (.tail _ (.tail _ (.tail _ (.tail _ (.tail _ (.tail _ (.head _))))))))))))))
  dsimp only at n_un n_ov n_lk n_218
  have hadr : ∀ a ∈ [un', ov, lk, 218], h₀.get? a = none ∧ a ≠ L := fun a ha => by
    simp only [List.mem_cons, List.not_mem_nil, or_false] at ha
    rcases ha with rfl | rfl | rfl | rfl
    · exact ⟨n_un.2.2, n_un.2.1⟩
    · exact ⟨n_ov.2.2, n_ov.2.1⟩
    · exact ⟨n_lk.2.2, n_lk.2.1⟩
    · exact ⟨n_218.2.2, n_218.2.1⟩
  have sub : ∀ b o, h₀.get? b = some o → (hideAll s.heap [un', ov, lk, 218]).get? b = some o := sub_hide F.keep fun a ha => (hadr a ha).1
  have hid : ∀ b o, s.heap.get? b = some o → (@Ne Nat b un' ∧ @Ne Nat b ov ∧ @Ne Nat b lk ∧ @Ne Nat b 218) → (hideAll s.heap [un', ov, lk, 218]).get? b = some o := fun b o e z => hideAll_get _ e (by
    simp only [List.mem_cons, List.not_mem_nil, or_false]
    rintro ((y : @Eq Nat _ _) | (y : @Eq Nat _ _) | (y : @Eq Nat _ _) | (y : @Eq Nat _ _))
    · exact z.1 y
    · exact z.2.1 y
    · exact z.2.2.1 y
    · exact z.2.2.2 y)
  have hS : StaticL w gs false x l lk un' ov c' f se (Str.ofString "_law_rest.<locals>.looked") sv t ys (fun _ => (.none, .none, .none)) (fun i => [a2, a5, a3, a1, a6, a7, a4].getD i a1) (hideAll s.heap [un', ov, lk, 218]) := by
    refine ⟨⟨doc, pm, ctv, hid _ _ (N (f, fnMade (Str.ofString "looked") (Str.ofString "_law_rest.<locals>.looked") lookedParams.1 lookedBody.1 lookedScope.1 [(Str.ofString "upper", a4), (Str.ofString "under", a7), (Str.ofString "turn", a6), (Str.ofString "table", a1), (Str.ofString "seen", a3), (Str.ofString "over", a5), (Str.ofString "looks", a2)] doc pm c' ctv) (.tail _ (.head _))).1 (by refine ⟨?_, ?_, ?_, ?_⟩ <;> lsm_bools)⟩, hrec.keeps sub, htab.keeps sub, hchd.keeps sub,
      ⟨o2, hid a2 o2 (N (a2, o2) (.tail _ (.tail _ (.tail _ (.tail _ (.tail _ (.tail _ (.tail _ (.tail _ (.tail _ (.tail _ (.head _)))))))))))).1 (by refine ⟨?_, ?_, ?_, ?_⟩ <;> lsm_bools), d2⟩, ⟨o5, hid a5 o5 (N (a5, o5) (.tail _ (.tail _ (.tail _ (.tail _ (.tail _ (.tail _ (.tail _ (.head _))))))))).1 (by refine ⟨?_, ?_, ?_, ?_⟩ <;> lsm_bools), d5⟩, ⟨o3, hid a3 o3 (N (a3, o3) (.tail _ (.tail _ (.tail _ (.tail _ (.tail _ (.tail _ (.tail _ (.tail _ (.tail _ (.head _))))))))))).1 (by refine ⟨?_, ?_, ?_, ?_⟩ <;> lsm_bools), d3⟩,
      ⟨o1, hid a1 o1 (N (a1, o1) (.tail _ (.tail _ (.tail _ (.tail _ (.tail _ (.tail _ (.tail _ (.tail _ (.tail _ (.tail _ (.tail _ (.head _))))))))))))).1 (by refine ⟨?_, ?_, ?_, ?_⟩ <;> lsm_bools), d1⟩, ⟨t7, o6, hid a6 o6 (N (a6, o6) (.tail _ (.tail _ (.tail _ (.tail _ (.tail _ (.tail _ (.head _)))))))).1 (by refine ⟨?_, ?_, ?_, ?_⟩ <;> lsm_bools), d6⟩, ⟨o7, hid a7 o7 (N (a7, o7) (.tail _ (.tail _ (.tail _ (.tail _ (.tail _ (.head _))))))).1 (by refine ⟨?_, ?_, ?_, ?_⟩ <;> lsm_bools), d7⟩, ⟨o4, hid a4 o4 (N (a4, o4) (.tail _ (.tail _ (.tail _ (.tail _ (.tail _ (.tail _ (.tail _ (.tail _ (.head _)))))))))).1 (by refine ⟨?_, ?_, ?_, ?_⟩ <;> lsm_bools), d4⟩,
      hse.at fun o e => sub _ o e, fun c v hv => ?_⟩
    obtain ⟨b, tk, nn, e, hm, hl⟩ := hsp c v hv
    refine ⟨b, tk, e, ⟨_, hid _ _ (N (b, listOf [Value.int (c : Int) tk].toArray nn) ?_).1 (by refine ⟨?_, ?_, ?_, ?_⟩ <;> lsm_bools), rfl, _, rfl⟩⟩
    exact (.tail _ (.tail _ (.tail _ (.tail _ (.tail _ (.tail _ (.tail _ (.tail _ (.tail _ (.tail _ (.tail _ (.tail _ (.tail _ (.tail _ hm))))))))))))))
  obtain ⟨olo, glo, plo⟩ := isPair_at hlo
  obtain ⟨ohi, ghi, phi⟩ := isPair_at hhi
  have nin : ∀ b o, h₀.get? b = some o → b ∉ [un', ov, lk, 218] := fun b o e hb => by rw [(hadr b hb).1] at e; cases e
  have hLed : LedL un' ov lk c' vl.length ⟨low, high, 0⟩ [(un', listOf [Value.ref lo].toArray nu), (ov, listOf [Value.ref hi].toArray no), (lk, listOf vl.toArray nl), (218, tabObj (psOf c')), (lo, olo), (hi, ohi)] :=
    ⟨_, _, _, _, _, _, lo, hi, olo, ohi, rfl, rfl, rfl, plo, phi, rfl, Nat.le_refl _, Nat.le_refl _, nin _ _ glo, nin _ _ ghi⟩
  have htt : getP high t ≤ 9 := getP_le hhi1 hhi2 t
  have htl : getP low t ≤ 9 := getP_le hlo1 hlo2 t
  have hk1 : k ≤ 1 := by omega
  have hpi0 : PiR vl.length k (getP low t + 0) (getP high t + 0) ⟨low, high, 0⟩ := by
    refine ⟨by omega, ⟨hlo1, hlo2, hhi1, hhi2⟩, ?_⟩
    have h1 : (capOf k + 1) * (getP high t + 0 - (getP low t + 0)) ≤ (capOf k + 1) * 9 := Nat.mul_le_mul_left _ (by omega)
    have h2 : (capOf k + 1) * 9 + capOf k ≤ capOf (k + 1) := by
      rcases (show k = 0 ∨ k = 1 by omega) with rfl | rfl <;> decide
    dsimp only
    omega
  have hpiE := piR_end (f := come gs) (upper := false) (t := t) hk1 hs9 (show getP low t + 0 ≤ 10 by omega) hpi0
  have hge := bis_ge (prb (come gs) false (restF (come gs) false k) t sl) (getP high t + 0 - (getP low t + 0)) (getP low t + 0) (getP high t + 0) ⟨low, high, 0⟩
  have hbl := bis_le (prb (come gs) false (restF (come gs) false k) t sl) (getP high t + 0 - (getP low t + 0)) (getP low t + 0) (getP high t + 0) ⟨low, high, 0⟩
  replace hbl := Nat.le_trans hbl (Nat.max_le.mpr ⟨show getP low t + 0 ≤ 9 + 0 by omega, show getP high t + 0 ≤ 9 + 0 by omega⟩)
  refine bisect_left_spec (D := D) (σ := St) (probe := prb (come gs) false (restF (come gs) false k) t sl) (R := RL vl.length k) (Pi := PiR vl.length k) (Led := LedL un' ov lk c' vl.length) (vs := ys) (lo := getP low t + 0) (hi := getP high t + 0) B F X T hk hdp (by omega) hun hadr
    StaticL.keeps ledL_ok (fun lo hi st hlt hp => piR_step hk1 hs9 lo hi st hlt hp) (by omega) (by omega) (by omega) (fun c v hv => looked_ok hin hD hD' hgs hsv hsl htk hs9 ⟨q1, by omega, q10⟩ c v hv)
    ⟨_, _, _, _, hid _ _ (N (f, fnMade (Str.ofString "looked") (Str.ofString "_law_rest.<locals>.looked") lookedParams.1 lookedBody.1 lookedScope.1 [(Str.ofString "upper", a4), (Str.ofString "under", a7), (Str.ofString "turn", a6), (Str.ofString "table", a1), (Str.ofString "seen", a3), (Str.ofString "over", a5), (Str.ofString "looks", a2)] doc pm c' ctv) (.tail _ (.head _))).1 (by refine ⟨?_, ?_, ?_, ?_⟩ <;> lsm_bools)⟩
    ⟨_, hid _ _ (N (sp, lst ys) (.head _)).1 hspn, rfl, _, rfl⟩ hS hpi0 hLed (fun q hq => ?_) ?_
  · simp only [List.mem_cons, List.not_mem_nil, or_false] at hq
    rcases hq with rfl | rfl | rfl | rfl | rfl | rfl
    · exact n_un.1
    · exact n_ov.1
    · exact n_lk.1
    · exact n_218.1
    · exact F.keep _ _ glo
    · exact F.keep _ _ ghi
  · intro h' tk' l' t' kb led held
    obtain ⟨vu, nu', vo, no', vl', nl', au, ao, ou, oo, rfl, gu, go, pu, po, evl, evu, evo, nau, nao⟩ := led.at_
    obtain ⟨e1, e2, e3⟩ := hpiE
    have F' := fr_butL F kb hadr
    obtain ⟨nx, Nx, hnx⟩ := reledger F' [(au, ou), (ao, oo)] fun q hq => by
      simp only [List.mem_cons, List.not_mem_nil, or_false] at hq
      rcases hq with rfl | rfl
      · exact ⟨held _ (.tail _ (.tail _ (.tail _ (.tail _ (.head _))))), isPair_notNs pu⟩
      · exact ⟨held _ (.tail _ (.tail _ (.tail _ (.tail _ (.tail _ (.head _)))))), isPair_notNs po⟩
    have kp : ∀ b o, News h₀ L s.heap [(b, o)] → (@Ne Nat b un' ∧ @Ne Nat b ov ∧ @Ne Nat b lk ∧ @Ne Nat b 218) → h'.get? b = some o ∧ b ≠ L ∧ h₀.get? b = none := fun b o n z => ⟨kb b o (by
      simp only [List.mem_cons, List.not_mem_nil, or_false]
      rintro ((y : @Eq Nat _ _) | (y : @Eq Nat _ _) | (y : @Eq Nat _ _) | (y : @Eq Nat _ _))
      · exact z.1 y
      · exact z.2.1 y
      · exact z.2.2.1 y
      · exact z.2.2.2 y) (n _ (.head _)).1, (n _ (.head _)).2⟩
    have one : ∀ q, q ∈ ((sp, lst ys) :: (f, fnMade (Str.ofString "looked") (Str.ofString "_law_rest.<locals>.looked") lookedParams.1 lookedBody.1 lookedScope.1 [(Str.ofString "upper", a4), (Str.ofString "under", a7), (Str.ofString "turn", a6), (Str.ofString "table", a1), (Str.ofString "seen", a3), (Str.ofString "over", a5), (Str.ofString "looks", a2)] doc pm c' ctv) :: (tp, otp) :: (ov, listOf #[Value.ref hi] no) :: (un', listOf #[Value.ref lo] nu) :: (a7, o7) :: (a6, o6) :: (a5, o5) :: (a4, o4) :: (a3, o3) :: (a2, o2) :: (a1, o1) :: (lk, listOf vl.toArray nl) :: (218, tabObj (psOf c')) :: ex) → News h₀ L s.heap [q] := fun q hq r hr => by rw [List.mem_singleton.mp hr]; exact N q hq
    refine h h' tk' t' vu nu' vo no' vl' nl' au ao ou oo nx F' (fun q hq => ?_) gu go (by omega) (by omega) (hnx _ (.head _)) (hnx _ (.tail _ (.head _))) (fun z => nau (.tail _ (.tail _ z))) (fun z => nao (.tail _ (.tail _ z))) pu po evl e2 (by omega) hge hbl
    rcases List.mem_cons.mp hq with rfl | hq
    · exact kp _ _ (one (a7, o7) (.tail _ (.tail _ (.tail _ (.tail _ (.tail _ (.head _))))))) (by refine ⟨?_, ?_, ?_, ?_⟩ <;> lsm_bools)
    rcases List.mem_cons.mp hq with rfl | hq
    · exact kp _ _ (one (a6, o6) (.tail _ (.tail _ (.tail _ (.tail _ (.tail _ (.tail _ (.head _)))))))) (by refine ⟨?_, ?_, ?_, ?_⟩ <;> lsm_bools)
    rcases List.mem_cons.mp hq with rfl | hq
    · exact kp _ _ (one (a5, o5) (.tail _ (.tail _ (.tail _ (.tail _ (.tail _ (.tail _ (.tail _ (.head _))))))))) (by refine ⟨?_, ?_, ?_, ?_⟩ <;> lsm_bools)
    rcases List.mem_cons.mp hq with rfl | hq
    · exact kp _ _ (one (a4, o4) (.tail _ (.tail _ (.tail _ (.tail _ (.tail _ (.tail _ (.tail _ (.tail _ (.head _)))))))))) (by refine ⟨?_, ?_, ?_, ?_⟩ <;> lsm_bools)
    rcases List.mem_cons.mp hq with rfl | hq
    · exact kp _ _ (one (a3, o3) (.tail _ (.tail _ (.tail _ (.tail _ (.tail _ (.tail _ (.tail _ (.tail _ (.tail _ (.head _))))))))))) (by refine ⟨?_, ?_, ?_, ?_⟩ <;> lsm_bools)
    rcases List.mem_cons.mp hq with rfl | hq
    · exact kp _ _ (one (a2, o2) (.tail _ (.tail _ (.tail _ (.tail _ (.tail _ (.tail _ (.tail _ (.tail _ (.tail _ (.tail _ (.head _)))))))))))) (by refine ⟨?_, ?_, ?_, ?_⟩ <;> lsm_bools)
    rcases List.mem_cons.mp hq with rfl | hq
    · exact kp _ _ (one (a1, o1) (.tail _ (.tail _ (.tail _ (.tail _ (.tail _ (.tail _ (.tail _ (.tail _ (.tail _ (.tail _ (.tail _ (.head _))))))))))))) (by refine ⟨?_, ?_, ?_, ?_⟩ <;> lsm_bools)
    rcases List.mem_cons.mp hq with rfl | hq
    · exact ⟨held _ (.head _), n_un.2⟩
    rcases List.mem_cons.mp hq with rfl | hq
    · exact ⟨held _ (.tail _ (.head _)), n_ov.2⟩
    rcases List.mem_cons.mp hq with rfl | hq
    · exact ⟨held _ (.tail _ (.tail _ (.head _))), n_lk.2⟩
    rcases List.mem_cons.mp hq with rfl | hq
    · exact ⟨held _ (.tail _ (.tail _ (.tail _ (.head _)))), n_218.2⟩
    exact Nx q hq
end


section
variable {w : World} {p : Program} {loose : List Str} {mean : ExcName → Option Value} {mg mb : Str → Option Value}
    {dp un : Nat} {gd : Option (List Code)} {cn : Str} {cs : Scope} {a : Addr} {ccd : Value} {cl : List (Str × Addr)} {outer : List Env} {A₀ : Around} {base h₀ : Heap} {L : Addr} {m : Str → Option Value} {s : Shared}
    {Q E : Value → Shared → Prop}
set_option maxHeartbeats 8000000 in
theorem bis_left_miss {D D' k t : Nat} {gs : List Guest} (hin : RestC w p loose mean mg mb D' gs false k) (hD : D + 1 ≤ D') (hD' : D' ≤ 895) (hgs : GuestsOk gs)
    (B : Below A₀ base outer h₀) (F : Fr h₀ L s.heap m) (X : (hd.heap_39 w.params).In h₀) (T : Top p loose mean mg mb h₀) (hk : cs.kind = .function) (hdp : dp + 1 < D) (hun : un < 3000 + 3 * dp)
    {x l lk un' ov c' f se sp tp lo hi a1 a2 a3 a4 a5 a6 a7 : Addr} {otp o1 o2 o3 o4 o5 o6 o7 : Obj} {oc : Obj} {vsc : Array Value} {tq : Tok} {doc pm ctv : Value} {ys sv vl : List Value} {sl : List Nat} {no nu nl : Nat} {ex : List (Addr × Obj)} {low high : Nat × Nat} {t1 t2 t3 t4 t5 t6 t7 : Tok}
    (N : News h₀ L s.heap ((sp, lst ys) :: (f, fnMade (Str.ofString "looked") (Str.ofString "_law_rest.<locals>.looked") lookedParams.1 lookedBody.1 lookedScope.1 [(Str.ofString "upper", a4), (Str.ofString "under", a7), (Str.ofString "turn", a6), (Str.ofString "table", a1), (Str.ofString "seen", a3), (Str.ofString "over", a5), (Str.ofString "looks", a2)] doc pm c' ctv) :: (c', oc) :: (tp, otp) :: (ov, listOf #[Value.ref hi] no) :: (un', listOf #[Value.ref lo] nu) :: (a7, o7) :: (a6, o6) :: (a5, o5) :: (a4, o4) :: (a3, o3) :: (a2, o2) :: (a1, o1) :: (lk, listOf vl.toArray nl) :: (218, tabObj (psOf c')) :: ex))
    (d1 : o1.data = .cell (some (.ref x))) (d2 : o2.data = .cell (some (.ref lk))) (d3 : o3.data = .cell (some (.ref se))) (d4 : o4.data = .cell (some (.bool false))) (d5 : o5.data = .cell (some (.ref ov))) (d6 : o6.data = .cell (some (.int (t : Int) t7))) (d7 : o7.data = .cell (some (.ref un')))
    (hord : @LT.lt Nat _ 218 lk ∧ @LT.lt Nat _ lk a1 ∧ @LT.lt Nat _ a1 a2 ∧ @LT.lt Nat _ a2 a3 ∧ @LT.lt Nat _ a3 a4 ∧ @LT.lt Nat _ a4 a5 ∧ @LT.lt Nat _ a5 a6 ∧ @LT.lt Nat _ a6 a7 ∧ @LT.lt Nat _ a7 un' ∧ @LT.lt Nat _ un' ov ∧ @LT.lt Nat _ ov f) (hspn : @Ne Nat sp un' ∧ @Ne Nat sp ov ∧ @Ne Nat sp lk ∧ @Ne Nat sp 218)
    (hsp : ∀ (c : Nat) (v : Value), ys[c]? = some v → ∃ b tk nn, v = .ref b ∧ (b, listOf [Value.int (c : Int) tk].toArray nn) ∈ ex ∧ @LT.lt Nat _ ov b) (hyl : ys.length = getP high t + 1)
    (hse : h₀.IsList se sv.toArray) (hsv : IntsAre sv (sl.map fun n => ((n : Nat) : Int))) (hsl : sl.length = t) (htk : t + k = 1) (hs9 : ∀ i ∈ sl, i ≤ 9)
    (htab : TableAt h₀ w.params x l (gs.map rowOf)) (hchd : CodeHd h₀ 220 218) (hoc : oc.data = .fields vsc) (hocv : vsc[1]? = some (.str (Str.ofString "_law_rest.<locals>.looked") tq)) (hcc : @LT.lt Nat _ ov c' ∧ @LT.lt Nat _ c' f)
    (hlo : h₀.IsList lo #[.int low.1 t1, .int low.2 t2]) (hhi : h₀.IsList hi #[.int high.1 t3, .int high.2 t4]) (hlo1 : low.1 ≤ 9) (hlo2 : low.2 ≤ 9) (hhi1 : high.1 ≤ 9) (hhi2 : high.2 ≤ 9)
    (hcap : vl.length + capOf (k + 1) ≤ 1000000)
    (h : ∀ h' tk' t' vu nu vo no vl' nl' au ao ou oo ex', Fr h₀ L h' m → News h₀ L h' ((c', oc) :: (a7, o7) :: (a6, o6) :: (a5, o5) :: (a4, o4) :: (a3, o3) :: (a2, o2) :: (a1, o1) :: (un', listOf vu.toArray nu) :: (ov, listOf vo.toArray no) :: (lk, listOf vl'.toArray nl') :: (218, tabObj (psOf c')) :: ex') → (vu : List Value).getLast? = some (.ref au) → (vo : List Value).getLast? = some (.ref ao) → vu.length ≤ 1000001 → vo.length ≤ 1000001 →
      (h₀.get? au = some ou ∨ (au, ou) ∈ ex') → (h₀.get? ao = some oo ∨ (ao, oo) ∈ ex') → au ∉ [lk, 218] → ao ∉ [lk, 218] → IsPair ou (bis (prb (come gs) false (restF (come gs) false k) t sl) (getP high t + 0 - (getP low t + 0)) (getP low t + 0) (getP high t + 0) ⟨low, high, 0⟩).2.u → IsPair oo (bis (prb (come gs) false (restF (come gs) false k) t sl) (getP high t + 0 - (getP low t + 0)) (getP low t + 0) (getP high t + 0) ⟨low, high, 0⟩).2.o → (vl' : List Value).length = vl.length + (bis (prb (come gs) false (restF (come gs) false k) t sl) (getP high t + 0 - (getP low t + 0)) (getP low t + 0) (getP high t + 0) ⟨low, high, 0⟩).2.k → (bis (prb (come gs) false (restF (come gs) false k) t sl) (getP high t + 0 - (getP low t + 0)) (getP low t + 0) (getP high t + 0) ⟨low, high, 0⟩).2.le9 → vl.length + (bis (prb (come gs) false (restF (come gs) false k) t sl) (getP high t + 0 - (getP low t + 0)) (getP low t + 0) (getP high t + 0) ⟨low, high, 0⟩).2.k + capOf k ≤ 1000000 →
      getP low t + 0 ≤ (bis (prb (come gs) false (restF (come gs) false k) t sl) (getP high t + 0 - (getP low t + 0)) (getP low t + 0) (getP high t + 0) ⟨low, high, 0⟩).1 → (bis (prb (come gs) false (restF (come gs) false k) t sl) (getP high t + 0 - (getP low t + 0)) (getP low t + 0) (getP high t + 0) ⟨low, high, 0⟩).1 ≤ 9 + 0 → Q (.int ((bis (prb (come gs) false (restF (come gs) false k) t sl) (getP high t + 0 - (getP low t + 0)) (getP low t + 0) (getP high t + 0) ⟨low, high, 0⟩).1 : Nat) t') { s with heap := h', toks := tk' }) :
    wpAny (model PySem.Challenge.rw_ph0161_01.row.prog w) (ktrTop dp un gd cn cs L a ccd cl outer) (call (.ref 56) [.ref sp, .bool true, .int ((getP low t + 0 : Nat) : Int) t5, .int ((getP high t + 0 : Nat) : Int) t6] [(Str.ofString "key", .ref f)]) Q E s := by
  obtain ⟨q1, q2, q3, q4, q5, q6, q7, q8, q9, q10, q11⟩ := hord
  obtain ⟨q13, q14⟩ := hcc
  have n_un := N (un', listOf #[Value.ref lo] nu) (.tail _ (.tail _ (.tail _ (.tail _ (.tail _ (.head _))))))
  have n_ov := N (ov, listOf #[Value.ref hi] no) (.tail _ (.tail _ (.tail _ (.tail _ (.head _)))))
  have n_lk := N (lk, listOf vl.toArray nl) (.tail _ (.tail _ (.tail _ (.tail _ (.tail _ (.tail _ (.tail _ (.tail _ (.tail _ (.tail _ (.tail _ (.tail _ (.tail _ (.head _))))))))))))))
  have n_218 := N (218, tabObj (psOf c')) (.tail _ (.tail _ (.tail _ (.tail _ (.tail _ (.tail _ (.tail _ (.tail _ (.tail _ (.tail _ (.tail _ (.tail _ (.tail _ (.tail _ (.head _)))))))))))))))
  dsimp only at n_un n_ov n_lk n_218
  have hadr : ∀ a ∈ [un', ov, lk, 218], h₀.get? a = none ∧ a ≠ L := fun a ha => by
    simp only [List.mem_cons, List.not_mem_nil, or_false] at ha
    rcases ha with rfl | rfl | rfl | rfl
    · exact ⟨n_un.2.2, n_un.2.1⟩
    · exact ⟨n_ov.2.2, n_ov.2.1⟩
    · exact ⟨n_lk.2.2, n_lk.2.1⟩
    · exact ⟨n_218.2.2, n_218.2.1⟩
  have sub : ∀ b o, h₀.get? b = some o → (hideAll s.heap [un', ov, lk, 218]).get? b = some o := sub_hide F.keep fun a ha => (hadr a ha).1
  have hid : ∀ b o, s.heap.get? b = some o → (@Ne Nat b un' ∧ @Ne Nat b ov ∧ @Ne Nat b lk ∧ @Ne Nat b 218) → (hideAll s.heap [un', ov, lk, 218]).get? b = some o := fun b o e z => hideAll_get _ e (by
    simp only [List.mem_cons, List.not_mem_nil, or_false]
    rintro ((y : @Eq Nat _ _) | (y : @Eq Nat _ _) | (y : @Eq Nat _ _) | (y : @Eq Nat _ _))
    · exact z.1 y
    · exact z.2.1 y
    · exact z.2.2.1 y
    · exact z.2.2.2 y)
  have hS : StaticL w gs false x l lk un' ov c' f se (Str.ofString "_law_rest.<locals>.looked") sv t ys (fun _ => (.none, .none, .none)) (fun i => [a2, a5, a3, a1, a6, a7, a4].getD i a1) (hideAll s.heap [un', ov, lk, 218]) := by
    refine ⟨⟨doc, pm, ctv, hid _ _ (N (f, fnMade (Str.ofString "looked") (Str.ofString "_law_rest.<locals>.looked") lookedParams.1 lookedBody.1 lookedScope.1 [(Str.ofString "upper", a4), (Str.ofString "under", a7), (Str.ofString "turn", a6), (Str.ofString "table", a1), (Str.ofString "seen", a3), (Str.ofString "over", a5), (Str.ofString "looks", a2)] doc pm c' ctv) (.tail _ (.head _))).1 (by refine ⟨?_, ?_, ?_, ?_⟩ <;> lsm_bools)⟩, ⟨c', oc, vsc, tq, rfl, hid _ _ (N (c', oc) (.tail _ (.tail _ (.head _)))).1 (by show _ ∧ _ ∧ _ ∧ _; refine ⟨?_, ?_, ?_, ?_⟩ <;> lsm_bools), hoc, hocv⟩, htab.keeps sub, hchd.keeps sub,
      ⟨o2, hid a2 o2 (N (a2, o2) (.tail _ (.tail _ (.tail _ (.tail _ (.tail _ (.tail _ (.tail _ (.tail _ (.tail _ (.tail _ (.tail _ (.head _))))))))))))).1 (by refine ⟨?_, ?_, ?_, ?_⟩ <;> lsm_bools), d2⟩, ⟨o5, hid a5 o5 (N (a5, o5) (.tail _ (.tail _ (.tail _ (.tail _ (.tail _ (.tail _ (.tail _ (.tail _ (.head _)))))))))).1 (by refine ⟨?_, ?_, ?_, ?_⟩ <;> lsm_bools), d5⟩, ⟨o3, hid a3 o3 (N (a3, o3) (.tail _ (.tail _ (.tail _ (.tail _ (.tail _ (.tail _ (.tail _ (.tail _ (.tail _ (.tail _ (.head _)))))))))))).1 (by refine ⟨?_, ?_, ?_, ?_⟩ <;> lsm_bools), d3⟩,
      ⟨o1, hid a1 o1 (N (a1, o1) (.tail _ (.tail _ (.tail _ (.tail _ (.tail _ (.tail _ (.tail _ (.tail _ (.tail _ (.tail _ (.tail _ (.tail _ (.head _)))))))))))))).1 (by refine ⟨?_, ?_, ?_, ?_⟩ <;> lsm_bools), d1⟩, ⟨t7, o6, hid a6 o6 (N (a6, o6) (.tail _ (.tail _ (.tail _ (.tail _ (.tail _ (.tail _ (.tail _ (.head _))))))))).1 (by refine ⟨?_, ?_, ?_, ?_⟩ <;> lsm_bools), d6⟩, ⟨o7, hid a7 o7 (N (a7, o7) (.tail _ (.tail _ (.tail _ (.tail _ (.tail _ (.tail _ (.head _)))))))).1 (by refine ⟨?_, ?_, ?_, ?_⟩ <;> lsm_bools), d7⟩, ⟨o4, hid a4 o4 (N (a4, o4) (.tail _ (.tail _ (.tail _ (.tail _ (.tail _ (.tail _ (.tail _ (.tail _ (.tail _ (.head _))))))))))).1 (by refine ⟨?_, ?_, ?_, ?_⟩ <;> lsm_bools), d4⟩,
      hse.at fun o e => sub _ o e, fun c v hv => ?_⟩
    obtain ⟨b, tk, nn, e, hm, hl⟩ := hsp c v hv
    refine ⟨b, tk, e, ⟨_, hid _ _ (N (b, listOf [Value.int (c : Int) tk].toArray nn) ?_).1 (by refine ⟨?_, ?_, ?_, ?_⟩ <;> lsm_bools), rfl, _, rfl⟩⟩
    exact (.tail _ (.tail _ (.tail _ (.tail _ (.tail _ (.tail _ (.tail _ (.tail _ (.tail _ (.tail _ (.tail _ (.tail _ (.tail _ (.tail _ (.tail _ hm)))))))))))))))
  obtain ⟨olo, glo, plo⟩ := isPair_at hlo
  obtain ⟨ohi, ghi, phi⟩ := isPair_at hhi
  have nin : ∀ b o, h₀.get? b = some o → b ∉ [un', ov, lk, 218] := fun b o e hb => by rw [(hadr b hb).1] at e; cases e
  have hLed : LedL un' ov lk c' vl.length ⟨low, high, 0⟩ [(un', listOf [Value.ref lo].toArray nu), (ov, listOf [Value.ref hi].toArray no), (lk, listOf vl.toArray nl), (218, tabObj (psOf c')), (lo, olo), (hi, ohi)] :=
    ⟨_, _, _, _, _, _, lo, hi, olo, ohi, rfl, rfl, rfl, plo, phi, rfl, Nat.le_refl _, Nat.le_refl _, nin _ _ glo, nin _ _ ghi⟩
  have htt : getP high t ≤ 9 := getP_le hhi1 hhi2 t
  have htl : getP low t ≤ 9 := getP_le hlo1 hlo2 t
  have hk1 : k ≤ 1 := by omega
  have hpi0 : PiR vl.length k (getP low t + 0) (getP high t + 0) ⟨low, high, 0⟩ := by
    refine ⟨by omega, ⟨hlo1, hlo2, hhi1, hhi2⟩, ?_⟩
    have h1 : (capOf k + 1) * (getP high t + 0 - (getP low t + 0)) ≤ (capOf k + 1) * 9 := Nat.mul_le_mul_left _ (by omega)
    have h2 : (capOf k + 1) * 9 + capOf k ≤ capOf (k + 1) := by
      rcases (show k = 0 ∨ k = 1 by omega) with rfl | rfl <;> decide
    dsimp only
    omega
  have hpiE := piR_end (f := come gs) (upper := false) (t := t) hk1 hs9 (show getP low t + 0 ≤ 10 by omega) hpi0
  have hge := bis_ge (prb (come gs) false (restF (come gs) false k) t sl) (getP high t + 0 - (getP low t + 0)) (getP low t + 0) (getP high t + 0) ⟨low, high, 0⟩
  have hbl := bis_le (prb (come gs) false (restF (come gs) false k) t sl) (getP high t + 0 - (getP low t + 0)) (getP low t + 0) (getP high t + 0) ⟨low, high, 0⟩
  replace hbl := Nat.le_trans hbl (Nat.max_le.mpr ⟨show getP low t + 0 ≤ 9 + 0 by omega, show getP high t + 0 ≤ 9 + 0 by omega⟩)
  refine bisect_left_spec (D := D) (σ := St) (probe := prb (come gs) false (restF (come gs) false k) t sl) (R := RL vl.length k) (Pi := PiR vl.length k) (Led := LedL un' ov lk c' vl.length) (vs := ys) (lo := getP low t + 0) (hi := getP high t + 0) B F X T hk hdp (by omega) hun hadr
    StaticL.keeps ledL_ok (fun lo hi st hlt hp => piR_step hk1 hs9 lo hi st hlt hp) (by omega) (by omega) (by omega) (fun c v hv => looked_ok hin hD hD' hgs hsv hsl htk hs9 ⟨q1, by omega, q10⟩ c v hv)
    ⟨_, _, _, _, hid _ _ (N (f, fnMade (Str.ofString "looked") (Str.ofString "_law_rest.<locals>.looked") lookedParams.1 lookedBody.1 lookedScope.1 [(Str.ofString "upper", a4), (Str.ofString "under", a7), (Str.ofString "turn", a6), (Str.ofString "table", a1), (Str.ofString "seen", a3), (Str.ofString "over", a5), (Str.ofString "looks", a2)] doc pm c' ctv) (.tail _ (.head _))).1 (by refine ⟨?_, ?_, ?_, ?_⟩ <;> lsm_bools)⟩
    ⟨_, hid _ _ (N (sp, lst ys) (.head _)).1 hspn, rfl, _, rfl⟩ hS hpi0 hLed (fun q hq => ?_) ?_
  · simp only [List.mem_cons, List.not_mem_nil, or_false] at hq
    rcases hq with rfl | rfl | rfl | rfl | rfl | rfl
    · exact n_un.1
    · exact n_ov.1
    · exact n_lk.1
    · exact n_218.1
    · exact F.keep _ _ glo
    · exact F.keep _ _ ghi
  · intro h' tk' l' t' kb led held
    obtain ⟨vu, nu', vo, no', vl', nl', au, ao, ou, oo, rfl, gu, go, pu, po, evl, evu, evo, nau, nao⟩ := led.at_
    obtain ⟨e1, e2, e3⟩ := hpiE
    have F' := fr_butL F kb hadr
    obtain ⟨nx, Nx, hnx⟩ := reledger F' [(au, ou), (ao, oo)] fun q hq => by
      simp only [List.mem_cons, List.not_mem_nil, or_false] at hq
      rcases hq with rfl | rfl
      · exact ⟨held _ (.tail _ (.tail _ (.tail _ (.tail _ (.head _))))), isPair_notNs pu⟩
      · exact ⟨held _ (.tail _ (.tail _ (.tail _ (.tail _ (.tail _ (.head _)))))), isPair_notNs po⟩
    have kp : ∀ b o, News h₀ L s.heap [(b, o)] → (@Ne Nat b un' ∧ @Ne Nat b ov ∧ @Ne Nat b lk ∧ @Ne Nat b 218) → h'.get? b = some o ∧ b ≠ L ∧ h₀.get? b = none := fun b o n z => ⟨kb b o (by
      simp only [List.mem_cons, List.not_mem_nil, or_false]
      rintro ((y : @Eq Nat _ _) | (y : @Eq Nat _ _) | (y : @Eq Nat _ _) | (y : @Eq Nat _ _))
      · exact z.1 y
      · exact z.2.1 y
      · exact z.2.2.1 y
      · exact z.2.2.2 y) (n _ (.head _)).1, (n _ (.head _)).2⟩
    have one : ∀ q, q ∈ ((sp, lst ys) :: (f, fnMade (Str.ofString "looked") (Str.ofString "_law_rest.<locals>.looked") lookedParams.1 lookedBody.1 lookedScope.1 [(Str.ofString "upper", a4), (Str.ofString "under", a7), (Str.ofString "turn", a6), (Str.ofString "table", a1), (Str.ofString "seen", a3), (Str.ofString "over", a5), (Str.ofString "looks", a2)] doc pm c' ctv) :: (c', oc) :: (tp, otp) :: (ov, listOf #[Value.ref hi] no) :: (un', listOf #[Value.ref lo] nu) :: (a7, o7) :: (a6, o6) :: (a5, o5) :: (a4, o4) :: (a3, o3) :: (a2, o2) :: (a1, o1) :: (lk, listOf vl.toArray nl) :: (218, tabObj (psOf c')) :: ex) → News h₀ L s.heap [q] := fun q hq r hr => by rw [List.mem_singleton.mp hr]; exact N q hq
    refine h h' tk' t' vu nu' vo no' vl' nl' au ao ou oo nx F' (fun q hq => ?_) gu go (by omega) (by omega) (hnx _ (.head _)) (hnx _ (.tail _ (.head _))) (fun z => nau (.tail _ (.tail _ z))) (fun z => nao (.tail _ (.tail _ z))) pu po evl e2 (by omega) hge hbl
    rcases List.mem_cons.mp hq with rfl | hq
    · exact kp _ _ (one (c', oc) (.tail _ (.tail _ (.head _)))) (by refine ⟨?_, ?_, ?_, ?_⟩ <;> lsm_bools)
    rcases List.mem_cons.mp hq with rfl | hq
    · exact kp _ _ (one (a7, o7) (.tail _ (.tail _ (.tail _ (.tail _ (.tail _ (.tail _ (.head _)))))))) (by refine ⟨?_, ?_, ?_, ?_⟩ <;> lsm_bools)
    rcases List.mem_cons.mp hq with rfl | hq
    · exact kp _ _ (one (a6, o6) (.tail _ (.tail _ (.tail _ (.tail _ (.tail _ (.tail _ (.tail _ (.head _))))))))) (by refine ⟨?_, ?_, ?_, ?_⟩ <;> lsm_bools)
    rcases List.mem_cons.mp hq with rfl | hq
    · exact kp _ _ (one (a5, o5) (.tail _ (.tail _ (.tail _ (.tail _ (.tail _ (.tail _ (.tail _ (.tail _ (.head _)))))))))) (by refine ⟨?_, ?_, ?_, ?_⟩ <;> lsm_bools)
    rcases List.mem_cons.mp hq with rfl | hq
    · exact kp _ _ (one (a4, o4) (.tail _ (.tail _ (.tail _ (.tail _ (.tail _ (.tail _ (.tail _ (.tail _ (.tail _ (.head _))))))))))) (by refine ⟨?_, ?_, ?_, ?_⟩ <;> lsm_bools)
    rcases List.mem_cons.mp hq with rfl | hq
    · exact kp _ _ (one (a3, o3) (.tail _ (.tail _ (.tail _ (.tail _ (.tail _ (.tail _ (.tail _ (.tail _ (.tail _ (.tail _ (.head _)))))))))))) (by refine ⟨?_, ?_, ?_, ?_⟩ <;> lsm_bools)
    rcases List.mem_cons.mp hq with rfl | hq
    · exact kp _ _ (one (a2, o2) (.tail _ (.tail _ (.tail _ (.tail _ (.tail _ (.tail _ (.tail _ (.tail _ (.tail _ (.tail _ (.tail _ (.head _))))))))))))) (by refine ⟨?_, ?_, ?_, ?_⟩ <;> lsm_bools)
    rcases List.mem_cons.mp hq with rfl | hq
    · exact kp _ _ (one (a1, o1) (.tail _ (.tail _ (.tail _ (.tail _ (.tail _ (.tail _ (.tail _ (.tail _ (.tail _ (.tail _ (.tail _ (.tail _ (.head _)))))))))))))) (by refine ⟨?_, ?_, ?_, ?_⟩ <;> lsm_bools)
    rcases List.mem_cons.mp hq with rfl | hq
    · exact ⟨held _ (.head _), n_un.2⟩
    rcases List.mem_cons.mp hq with rfl | hq
    · exact ⟨held _ (.tail _ (.head _)), n_ov.2⟩
    rcases List.mem_cons.mp hq with rfl | hq
    · exact ⟨held _ (.tail _ (.tail _ (.head _))), n_lk.2⟩
    rcases List.mem_cons.mp hq with rfl | hq
    · exact ⟨held _ (.tail _ (.tail _ (.tail _ (.head _)))), n_218.2⟩
    exact Nx q hq
end


section
variable {w : World} {p : Program} {loose : List Str} {mean : ExcName → Option Value} {mg mb : Str → Option Value}
    {dp un : Nat} {gd : Option (List Code)} {cn : Str} {cs : Scope} {a : Addr} {ccd : Value} {cl : List (Str × Addr)} {outer : List Env} {A₀ : Around} {base h₀ : Heap} {L : Addr} {m : Str → Option Value} {s : Shared}
    {Q E : Value → Shared → Prop}
set_option maxHeartbeats 8000000 in
theorem bis_right_hit {D D' k t : Nat} {gs : List Guest} (hin : RestC w p loose mean mg mb D' gs true k) (hD : D + 1 ≤ D') (hD' : D' ≤ 895) (hgs : GuestsOk gs)
    (B : Below A₀ base outer h₀) (F : Fr h₀ L s.heap m) (X : (hd.heap_39 w.params).In h₀) (T : Top p loose mean mg mb h₀) (hk : cs.kind = .function) (hdp : dp + 1 < D) (hun : un < 3000 + 3 * dp)
    {x l lk un' ov c' f se sp tp lo hi a1 a2 a3 a4 a5 a6 a7 : Addr} {otp o1 o2 o3 o4 o5 o6 o7 : Obj} {doc pm ctv : Value} {ys sv vl : List Value} {sl : List Nat} {no nu nl : Nat} {ex : List (Addr × Obj)} {low high : Nat × Nat} {t1 t2 t3 t4 t5 t6 t7 : Tok}
    (N : News h₀ L s.heap ((sp, lst ys) :: (f, fnMade (Str.ofString "looked") (Str.ofString "_law_rest.<locals>.looked") lookedParams.1 lookedBody.1 lookedScope.1 [(Str.ofString "upper", a4), (Str.ofString "under", a7), (Str.ofString "turn", a6), (Str.ofString "table", a1), (Str.ofString "seen", a3), (Str.ofString "over", a5), (Str.ofString "looks", a2)] doc pm c' ctv) :: (tp, otp) :: (ov, listOf #[Value.ref hi] no) :: (un', listOf #[Value.ref lo] nu) :: (a7, o7) :: (a6, o6) :: (a5, o5) :: (a4, o4) :: (a3, o3) :: (a2, o2) :: (a1, o1) :: (lk, listOf vl.toArray nl) :: (218, tabObj (psOf c')) :: ex))
    (d1 : o1.data = .cell (some (.ref x))) (d2 : o2.data = .cell (some (.ref lk))) (d3 : o3.data = .cell (some (.ref se))) (d4 : o4.data = .cell (some (.bool true))) (d5 : o5.data = .cell (some (.ref ov))) (d6 : o6.data = .cell (some (.int (t : Int) t7))) (d7 : o7.data = .cell (some (.ref un')))
    (hord : @LT.lt Nat _ 218 lk ∧ @LT.lt Nat _ lk a1 ∧ @LT.lt Nat _ a1 a2 ∧ @LT.lt Nat _ a2 a3 ∧ @LT.lt Nat _ a3 a4 ∧ @LT.lt Nat _ a4 a5 ∧ @LT.lt Nat _ a5 a6 ∧ @LT.lt Nat _ a6 a7 ∧ @LT.lt Nat _ a7 un' ∧ @LT.lt Nat _ un' ov ∧ @LT.lt Nat _ ov f) (hspn : @Ne Nat sp un' ∧ @Ne Nat sp ov ∧ @Ne Nat sp lk ∧ @Ne Nat sp 218)
    (hsp : ∀ (c : Nat) (v : Value), ys[c]? = some v → ∃ b tk nn, v = .ref b ∧ (b, listOf [Value.int (c : Int) tk].toArray nn) ∈ ex ∧ @LT.lt Nat _ ov b) (hyl : ys.length = getP high t + 1)
    (hse : h₀.IsList se sv.toArray) (hsv : IntsAre sv (sl.map fun n => ((n : Nat) : Int))) (hsl : sl.length = t) (htk : t + k = 1) (hs9 : ∀ i ∈ sl, i ≤ 9)
    (htab : TableAt h₀ w.params x l (gs.map rowOf)) (hchd : CodeHd h₀ 220 218) (hrec : h₀.CodeRec (.ref c') (Str.ofString "_law_rest.<locals>.looked"))
    (hlo : h₀.IsList lo #[.int low.1 t1, .int low.2 t2]) (hhi : h₀.IsList hi #[.int high.1 t3, .int high.2 t4]) (hlo1 : low.1 ≤ 9) (hlo2 : low.2 ≤ 9) (hhi1 : high.1 ≤ 9) (hhi2 : high.2 ≤ 9)
    (hcap : vl.length + capOf (k + 1) ≤ 1000000)
    (h : ∀ h' tk' t' vu nu vo no vl' nl' au ao ou oo ex', Fr h₀ L h' m → News h₀ L h' ((a7, o7) :: (a6, o6) :: (a5, o5) :: (a4, o4) :: (a3, o3) :: (a2, o2) :: (a1, o1) :: (un', listOf vu.toArray nu) :: (ov, listOf vo.toArray no) :: (lk, listOf vl'.toArray nl') :: (218, tabObj (psOf c')) :: ex') → (vu : List Value).getLast? = some (.ref au) → (vo : List Value).getLast? = some (.ref ao) → vu.length ≤ 1000001 → vo.length ≤ 1000001 →
      (h₀.get? au = some ou ∨ (au, ou) ∈ ex') → (h₀.get? ao = some oo ∨ (ao, oo) ∈ ex') → au ∉ [lk, 218] → ao ∉ [lk, 218] → IsPair ou (bis (prb (come gs) true (restF (come gs) true k) t sl) (getP high t + 1 - (getP low t + 1)) (getP low t + 1) (getP high t + 1) ⟨low, high, 0⟩).2.u → IsPair oo (bis (prb (come gs) true (restF (come gs) true k) t sl) (getP high t + 1 - (getP low t + 1)) (getP low t + 1) (getP high t + 1) ⟨low, high, 0⟩).2.o → (vl' : List Value).length = vl.length + (bis (prb (come gs) true (restF (come gs) true k) t sl) (getP high t + 1 - (getP low t + 1)) (getP low t + 1) (getP high t + 1) ⟨low, high, 0⟩).2.k → (bis (prb (come gs) true (restF (come gs) true k) t sl) (getP high t + 1 - (getP low t + 1)) (getP low t + 1) (getP high t + 1) ⟨low, high, 0⟩).2.le9 → vl.length + (bis (prb (come gs) true (restF (come gs) true k) t sl) (getP high t + 1 - (getP low t + 1)) (getP low t + 1) (getP high t + 1) ⟨low, high, 0⟩).2.k + capOf k ≤ 1000000 →
      getP low t + 1 ≤ (bis (prb (come gs) true (restF (come gs) true k) t sl) (getP high t + 1 - (getP low t + 1)) (getP low t + 1) (getP high t + 1) ⟨low, high, 0⟩).1 → (bis (prb (come gs) true (restF (come gs) true k) t sl) (getP high t + 1 - (getP low t + 1)) (getP low t + 1) (getP high t + 1) ⟨low, high, 0⟩).1 ≤ 9 + 1 → Q (.int ((bis (prb (come gs) true (restF (come gs) true k) t sl) (getP high t + 1 - (getP low t + 1)) (getP low t + 1) (getP high t + 1) ⟨low, high, 0⟩).1 : Nat) t') { s with heap := h', toks := tk' }) :
    wpAny (model PySem.Challenge.rw_ph0161_01.row.prog w) (ktrTop dp un gd cn cs L a ccd cl outer) (call (.ref 47) [.ref sp, .bool false, .int ((getP low t + 1 : Nat) : Int) t5, .int ((getP high t + 1 : Nat) : Int) t6] [(Str.ofString "key", .ref f)]) Q E s := by
  obtain ⟨q1, q2, q3, q4, q5, q6, q7, q8, q9, q10, q11⟩ := hord
  have n_un := N (un', listOf #[Value.ref lo] nu) (.tail _ (.tail _ (.tail _ (.tail _ (.head _)))))
  have n_ov := N (ov, listOf #[Value.ref hi] no) (.tail _ (.tail _ (.tail _ (.head _))))
  have n_lk := N (lk, listOf vl.toArray nl) (.tail _ (.tail _ (.tail _ (.tail _ (.tail _ (.tail _ (.tail _ (.tail _ (.tail _ (.tail _ (.tail _ (.tail _ (.head _)))))))))))))
  have n_218 := N (218, tabObj (psOf c')) (.tail _ (.tail _ (.tail _ (.tail _ (.tail _ (.tail _ (.tail _ (.tail _ (.tail _ (.tail _ (.tail _ (.tail _ (.tail _ (.head _))))))))))))))
  dsimp only at n_un n_ov n_lk n_218
  have hadr : ∀ a ∈ [un', ov, lk, 218], h₀.get? a = none ∧ a ≠ L := fun a ha => by
    simp only [List.mem_cons, List.not_mem_nil, or_false] at ha
    rcases ha with rfl | rfl | rfl | rfl
    · exact ⟨n_un.2.2, n_un.2.1⟩
    · exact ⟨n_ov.2.2, n_ov.2.1⟩
    · exact ⟨n_lk.2.2, n_lk.2.1⟩
    · exact ⟨n_218.2.2, n_218.2.1⟩
  have sub : ∀ b o, h₀.get? b = some o → (hideAll s.heap [un', ov, lk, 218]).get? b = some o := sub_hide F.keep fun a ha => (hadr a ha).1
  have hid : ∀ b o, s.heap.get? b = some o → (@Ne Nat b un' ∧ @Ne Nat b ov ∧ @Ne Nat b lk ∧ @Ne Nat b 218) → (hideAll s.heap [un', ov, lk, 218]).get? b = some o := fun b o e z => hideAll_get _ e (by
    simp only [List.mem_cons, List.not_mem_nil, or_false]
    rintro ((y : @Eq Nat _ _) | (y : @Eq Nat _ _) | (y : @Eq Nat _ _) | (y : @Eq Nat _ _))
    · exact z.1 y
    · exact z.2.1 y
    · exact z.2.2.1 y
    · exact z.2.2.2 y)
  have hS : StaticL w gs true x l lk un' ov c' f se (Str.ofString "_law_rest.<locals>.looked") sv t ys (fun _ => (.none, .none, .none)) (fun i => [a2, a5, a3, a1, a6, a7, a4].getD i a1) (hideAll s.heap [un', ov, lk, 218]) := by
    refine ⟨⟨doc, pm, ctv, hid _ _ (N (f, fnMade (Str.ofString "looked") (Str.ofString "_law_rest.<locals>.looked") lookedParams.1 lookedBody.1 lookedScope.1 [(Str.ofString "upper", a4), (Str.ofString "under", a7), (Str.ofString "turn", a6), (Str.ofString "table", a1), (Str.ofString "seen", a3), (Str.ofString "over", a5), (Str.ofString "looks", a2)] doc pm c' ctv) (.tail _ (.head _))).1 (by refine ⟨?_, ?_, ?_, ?_⟩ <;> lsm_bools)⟩, hrec.keeps sub, htab.keeps sub, hchd.keeps sub,
      ⟨o2, hid a2 o2 (N (a2, o2) (.tail _ (.tail _ (.tail _ (.tail _ (.tail _ (.tail _ (.tail _ (.tail _ (.tail _ (.tail _ (.head _)))))))))))).1 (by refine ⟨?_, ?_, ?_, ?_⟩ <;> lsm_bools), d2⟩, ⟨o5, hid a5 o5 (N (a5, o5) (.tail _ (.tail _ (.tail _ (.tail _ (.tail _ (.tail _ (.tail _ (.head _))))))))).1 (by refine ⟨?_, ?_, ?_, ?_⟩ <;> lsm_bools), d5⟩, ⟨o3, hid a3 o3 (N (a3, o3) (.tail _ (.tail _ (.tail _ (.tail _ (.tail _ (.tail _ (.tail _ (.tail _ (.tail _ (.head _))))))))))).1 (by refine ⟨?_, ?_, ?_, ?_⟩ <;> lsm_bools), d3⟩,
      ⟨o1, hid a1 o1 (N (a1, o1) (.tail _ (.tail _ (.tail _ (.tail _ (.tail _ (.tail _ (.tail _ (.tail _ (.tail _ (.tail _ (.tail _ (.head _))))))))))))).1 (by refine ⟨?_, ?_, ?_, ?_⟩ <;> lsm_bools), d1⟩, ⟨t7, o6, hid a6 o6 (N (a6, o6) (.tail _ (.tail _ (.tail _ (.tail _ (.tail _ (.tail _ (.head _)))))))).1 (by refine ⟨?_, ?_, ?_, ?_⟩ <;> lsm_bools), d6⟩, ⟨o7, hid a7 o7 (N (a7, o7) (.tail _ (.tail _ (.tail _ (.tail _ (.tail _ (.head _))))))).1 (by refine ⟨?_, ?_, ?_, ?_⟩ <;> lsm_bools), d7⟩, ⟨o4, hid a4 o4 (N (a4, o4) (.tail _ (.tail _ (.tail _ (.tail _ (.tail _ (.tail _ (.tail _ (.tail _ (.head _)))))))))).1 (by refine ⟨?_, ?_, ?_, ?_⟩ <;> lsm_bools), d4⟩,
      hse.at fun o e => sub _ o e, fun c v hv => ?_⟩
    obtain ⟨b, tk, nn, e, hm, hl⟩ := hsp c v hv
    refine ⟨b, tk, e, ⟨_, hid _ _ (N (b, listOf [Value.int (c : Int) tk].toArray nn) ?_).1 (by refine ⟨?_, ?_, ?_, ?_⟩ <;> lsm_bools), rfl, _, rfl⟩⟩
    exact (.tail _ (.tail _ (.tail _ (.tail _ (.tail _ (.tail _ (.tail _ (.tail _ (.tail _ (.tail _ (.tail _ (.tail _ (.tail _ (.tail _ hm))))))))))))))
  obtain ⟨olo, glo, plo⟩ := isPair_at hlo
  obtain ⟨ohi, ghi, phi⟩ := isPair_at hhi
  have nin : ∀ b o, h₀.get? b = some o → b ∉ [un', ov, lk, 218] := fun b o e hb => by rw [(hadr b hb).1] at e; cases e
  have hLed : LedL un' ov lk c' vl.length ⟨low, high, 0⟩ [(un', listOf [Value.ref lo].toArray nu), (ov, listOf [Value.ref hi].toArray no), (lk, listOf vl.toArray nl), (218, tabObj (psOf c')), (lo, olo), (hi, ohi)] :=
    ⟨_, _, _, _, _, _, lo, hi, olo, ohi, rfl, rfl, rfl, plo, phi, rfl, Nat.le_refl _, Nat.le_refl _, nin _ _ glo, nin _ _ ghi⟩
  have htt : getP high t ≤ 9 := getP_le hhi1 hhi2 t
  have htl : getP low t ≤ 9 := getP_le hlo1 hlo2 t
  have hk1 : k ≤ 1 := by omega
  have hpi0 : PiR vl.length k (getP low t + 1) (getP high t + 1) ⟨low, high, 0⟩ := by
    refine ⟨by omega, ⟨hlo1, hlo2, hhi1, hhi2⟩, ?_⟩
    have h1 : (capOf k + 1) * (getP high t + 1 - (getP low t + 1)) ≤ (capOf k + 1) * 9 := Nat.mul_le_mul_left _ (by omega)
    have h2 : (capOf k + 1) * 9 + capOf k ≤ capOf (k + 1) := by
      rcases (show k = 0 ∨ k = 1 by omega) with rfl | rfl <;> decide
    dsimp only
    omega
  have hpiE := piR_end (f := come gs) (upper := true) (t := t) hk1 hs9 (show getP low t + 1 ≤ 10 by omega) hpi0
  have hge := bis_ge (prb (come gs) true (restF (come gs) true k) t sl) (getP high t + 1 - (getP low t + 1)) (getP low t + 1) (getP high t + 1) ⟨low, high, 0⟩
  have hbl := bis_le (prb (come gs) true (restF (come gs) true k) t sl) (getP high t + 1 - (getP low t + 1)) (getP low t + 1) (getP high t + 1) ⟨low, high, 0⟩
  replace hbl := Nat.le_trans hbl (Nat.max_le.mpr ⟨show getP low t + 1 ≤ 9 + 1 by omega, show getP high t + 1 ≤ 9 + 1 by omega⟩)
  refine bisect_right_spec (D := D) (σ := St) (probe := prb (come gs) true (restF (come gs) true k) t sl) (R := RL vl.length k) (Pi := PiR vl.length k) (Led := LedL un' ov lk c' vl.length) (vs := ys) (lo := getP low t + 1) (hi := getP high t + 1) B F X T hk hdp (by omega) hun hadr
    StaticL.keeps ledL_ok (fun lo hi st hlt hp => piR_step hk1 hs9 lo hi st hlt hp) (by omega) (by omega) (by omega) (fun c v hv => looked_ok hin hD hD' hgs hsv hsl htk hs9 ⟨q1, by omega, q10⟩ c v hv)
    ⟨_, _, _, _, hid _ _ (N (f, fnMade (Str.ofString "looked") (Str.ofString "_law_rest.<locals>.looked") lookedParams.1 lookedBody.1 lookedScope.1 [(Str.ofString "upper", a4), (Str.ofString "under", a7), (Str.ofString "turn", a6), (Str.ofString "table", a1), (Str.ofString "seen", a3), (Str.ofString "over", a5), (Str.ofString "looks", a2)] doc pm c' ctv) (.tail _ (.head _))).1 (by refine ⟨?_, ?_, ?_, ?_⟩ <;> lsm_bools)⟩
    ⟨_, hid _ _ (N (sp, lst ys) (.head _)).1 hspn, rfl, _, rfl⟩ hS hpi0 hLed (fun q hq => ?_) ?_
  · simp only [List.mem_cons, List.not_mem_nil, or_false] at hq
    rcases hq with rfl | rfl | rfl | rfl | rfl | rfl
    · exact n_un.1
    · exact n_ov.1
    · exact n_lk.1
    · exact n_218.1
    · exact F.keep _ _ glo
    · exact F.keep _ _ ghi
  · intro h' tk' l' t' kb led held
    obtain ⟨vu, nu', vo, no', vl', nl', au, ao, ou, oo, rfl, gu, go, pu, po, evl, evu, evo, nau, nao⟩ := led.at_
    obtain ⟨e1, e2, e3⟩ := hpiE
    have F' := fr_butL F kb hadr
    obtain ⟨nx, Nx, hnx⟩ := reledger F' [(au, ou), (ao, oo)] fun q hq => by
      simp only [List.mem_cons, List.not_mem_nil, or_false] at hq
      rcases hq with rfl | rfl
      · exact ⟨held _ (.tail _ (.tail _ (.tail _ (.tail _ (.head _))))), isPair_notNs pu⟩
      · exact ⟨held _ (.tail _ (.tail _ (.tail _ (.tail _ (.tail _ (.head _)))))), isPair_notNs po⟩
    have kp : ∀ b o, News h₀ L s.heap [(b, o)] → (@Ne Nat b un' ∧ @Ne Nat b ov ∧ @Ne Nat b lk ∧ @Ne Nat b 218) → h'.get? b = some o ∧ b ≠ L ∧ h₀.get? b = none := fun b o n z => ⟨kb b o (by
      simp only [List.mem_cons, List.not_mem_nil, or_false]
      rintro ((y : @Eq Nat _ _) | (y : @Eq Nat _ _) | (y : @Eq Nat _ _) | (y : @Eq Nat _ _))
      · exact z.1 y
      · exact z.2.1 y
      · exact z.2.2.1 y
      · exact z.2.2.2 y) (n _ (.head _)).1, (n _ (.head _)).2⟩
    have one : ∀ q, q ∈ ((sp, lst ys) :: (f, fnMade (Str.ofString "looked") (Str.ofString "_law_rest.<locals>.looked") lookedParams.1 lookedBody.1 lookedScope.1 [(Str.ofString "upper", a4), (Str.ofString "under", a7), (Str.ofString "turn", a6), (Str.ofString "table", a1), (Str.ofString "seen", a3), (Str.ofString "over", a5), (Str.ofString "looks", a2)] doc pm c' ctv) :: (tp, otp) :: (ov, listOf #[Value.ref hi] no) :: (un', listOf #[Value.ref lo] nu) :: (a7, o7) :: (a6, o6) :: (a5, o5) :: (a4, o4) :: (a3, o3) :: (a2, o2) :: (a1, o1) :: (lk, listOf vl.toArray nl) :: (218, tabObj (psOf c')) :: ex) → News h₀ L s.heap [q] := fun q hq r hr => by rw [List.mem_singleton.mp hr]; exact N q hq
    refine h h' tk' t' vu nu' vo no' vl' nl' au ao ou oo nx F' (fun q hq => ?_) gu go (by omega) (by omega) (hnx _ (.head _)) (hnx _ (.tail _ (.head _))) (fun z => nau (.tail _ (.tail _ z))) (fun z => nao (.tail _ (.tail _ z))) pu po evl e2 (by omega) hge hbl
    rcases List.mem_cons.mp hq with rfl | hq
    · exact kp _ _ (one (a7, o7) (.tail _ (.tail _ (.tail _ (.tail _ (.tail _ (.head _))))))) (by refine ⟨?_, ?_, ?_, ?_⟩ <;> lsm_bools)
    rcases List.mem_cons.mp hq with rfl | hq
    · exact kp _ _ (one (a6, o6) (.tail _ (.tail _ (.tail _ (.tail _ (.tail _ (.tail _ (.head _)))))))) (by refine ⟨?_, ?_, ?_, ?_⟩ <;> lsm_bools)
    rcases List.mem_cons.mp hq with rfl | hq
    · exact kp _ _ (one (a5, o5) (.tail _ (.tail _ (.tail _ (.tail _ (.tail _ (.tail _ (.tail _ (.head _))))))))) (by refine ⟨?_, ?_, ?_, ?_⟩ <;> lsm_bools)
    rcases List.mem_cons.mp hq with rfl | hq
    · exact kp _ _ (one (a4, o4) (.tail _ (.tail _ (.tail _ (.tail _ (.tail _ (.tail _ (.tail _ (.tail _ (.head _)))))))))) (by refine ⟨?_, ?_, ?_, ?_⟩ <;> lsm_bools)
    rcases List.mem_cons.mp hq with rfl | hq
    · exact kp _ _ (one (a3, o3) (.tail _ (.tail _ (.tail _ (.tail _ (.tail _ (.tail _ (.tail _ (.tail _ (.tail _ (.head _))))))))))) (by refine ⟨?_, ?_, ?_, ?_⟩ <;> lsm_bools)
    rcases List.mem_cons.mp hq with rfl | hq
    · exact kp _ _ (one (a2, o2) (.tail _ (.tail _ (.tail _ (.tail _ (.tail _ (.tail _ (.tail _ (.tail _ (.tail _ (.tail _ (.head _)))))))))))) (by refine ⟨?_, ?_, ?_, ?_⟩ <;> lsm_bools)
    rcases List.mem_cons.mp hq with rfl | hq
    · exact kp _ _ (one (a1, o1) (.tail _ (.tail _ (.tail _ (.tail _ (.tail _ (.tail _ (.tail _ (.tail _ (.tail _ (.tail _ (.tail _ (.head _))))))))))))) (by refine ⟨?_, ?_, ?_, ?_⟩ <;> lsm_bools)
    rcases List.mem_cons.mp hq with rfl | hq
    · exact ⟨held _ (.head _), n_un.2⟩
    rcases List.mem_cons.mp hq with rfl | hq
    · exact ⟨held _ (.tail _ (.head _)), n_ov.2⟩
    rcases List.mem_cons.mp hq with rfl | hq
    · exact ⟨held _ (.tail _ (.tail _ (.head _))), n_lk.2⟩
    rcases List.mem_cons.mp hq with rfl | hq
    · exact ⟨held _ (.tail _ (.tail _ (.tail _ (.head _)))), n_218.2⟩
    exact Nx q hq
end

end

-- part C12
section
theorem fresh_C12 : True := by w_top off; trivial
open LCg LCt
theorem allLt_mem {a : Addr} : ∀ {l : List (Addr × Obj)}, AllLt a l → ∀ p ∈ l, @LT.lt Nat _ p.1 a
  | [], _, _, h => nomatch h
  | _ :: _, x, p, h => by
    rcases List.mem_cons.mp h with rfl | h
    · exact x.1
    · exact allLt_mem x.2 p h
theorem off1_mem {a : Addr} : ∀ {l : List (Addr × Obj)}, Off1 a l → ∀ p ∈ l, @Ne Nat p.1 a
  | [], _, _, h => nomatch h
  | _ :: _, x, p, h => by
    rcases List.mem_cons.mp h with rfl | h
    · exact x.1
    · exact off1_mem x.2 p h
theorem news_tab {g h : Heap} {L c' : Addr} {a1 a2 a3 a4 a5 a6 a7 a8 a9 b1 b2 b3 b4 : Addr × Obj} (N : News g L h [a1, a2, a3, a4, a5, a6, a7, a8, a9, b1, b2, b3, b4, (218, tabObj (#[] ++ #[rawInt 152, rawInt 4, .ref c']))]) : News g L h [a1, a2, a3, a4, a5, a6, a7, a8, a9, b1, b2, b3, b4, (218, tabObj (psOf c'))] := by
  rw [Array.empty_append] at N; exact N
theorem restF_at_false {f : Nat → Nat × Nat → Nat} {k t b0 : Nat} {sl : List Nat} {low high : Nat × Nat} {st : St} (hsl : sl.length = t) (hb : bis (prb f false (restF f false k) t sl) (getP high t + 0 - (getP low t + 0)) (getP low t + 0) (getP high t + 0) ⟨low, high, 0⟩ = (b0, st)) :
    restF f false (k + 1) sl low high = ((restF f false k (sl ++ [b0 - 0]) st.u st.o).1, st.k + (restF f false k (sl ++ [b0 - 0]) st.u st.o).2) := by
  subst hsl
  conv => lhs; unfold restF
  dsimp only
  simp only [Bool.false_eq_true, if_false]
  rw [hb]
theorem restF_at_true {f : Nat → Nat × Nat → Nat} {k t b0 : Nat} {sl : List Nat} {low high : Nat × Nat} {st : St} (hsl : sl.length = t) (hb : bis (prb f true (restF f true k) t sl) (getP high t + 1 - (getP low t + 1)) (getP low t + 1) (getP high t + 1) ⟨low, high, 0⟩ = (b0, st)) :
    restF f true (k + 1) sl low high = ((restF f true k (sl ++ [b0 - 1]) st.u st.o).1, st.k + (restF f true k (sl ++ [b0 - 1]) st.u st.o).2) := by
  subst hsl
  conv => lhs; unfold restF
  dsimp only
  simp only [if_true]
  rw [hb]
/-- the contract of _law_rest where looked's code is not made yet -/
def RestM (w : World) (p : Program) (loose : List Str) (mean : ExcName → Option Value) (mg mb : Str → Option Value) (D : Nat) (gs : List Guest) (upper : Bool) (k : Nat) : Prop :=
  ∀ (dp un : Nat) (gd : Option (List Code)) (cn : Str) (cs : Scope) (a : Addr) (ccd : Value) (cl : List (Str × Addr)) (outer : List Env) (A₀ : Around) (base h₀ : Heap) (L : Addr) (m : Str → Option Value) (s : Shared) (Q E : Value → Shared → Prop)
    (x l lk se lo hi : Addr) (sv : List Value) (sl : List Nat) (low high : Nat × Nat) (vl : List Value) (nl : Nat) (t1 t2 t3 t4 : Tok),
    Below A₀ base outer h₀ → Fr h₀ L s.heap m → (hd.heap_39 w.params).In h₀ → Top p loose mean mg mb h₀ → cs.kind = .function → dp < D → un < 3000 + 3 * dp → (∀ a ∈ [lk, 218], h₀.get? a = none ∧ a ≠ L) →
    TableAt (hideAll s.heap [lk, 218]) w.params x l (gs.map rowOf) → CodeHd (hideAll s.heap [lk, 218]) 220 218 →
    (hideAll s.heap [lk, 218]).IsList se sv.toArray → IntsAre sv (sl.map fun n => ((n : Nat) : Int)) → sl.length + k = 2 → (∀ i ∈ sl, i ≤ 9) →
    (hideAll s.heap [lk, 218]).IsList lo #[.int low.1 t1, .int low.2 t2] → low.1 ≤ 9 → low.2 ≤ 9 → (hideAll s.heap [lk, 218]).IsList hi #[.int high.1 t3, .int high.2 t4] → high.1 ≤ 9 → high.2 ≤ 9 →
    s.heap.get? lk = some (listOf vl.toArray nl) → vl.length + capOf k ≤ 1000000 → s.heap.get? 218 = some (tabObj #[]) → @LT.lt Nat _ 218 lk →
    (∀ (r : Addr) (h' : Heap) (tk' : Nat) (vl' : List Value) (nl' : Nat) (o : Obj) (c' : Addr) (oc : Obj) (vsc : Array Value) (tq : Tok), KeepBut [lk, 218] s.heap h' → h'.get? 218 = some (tabObj (psOf c')) → h'.get? c' = some oc → oc.data = .fields vsc → vsc[1]? = some (.str (Str.ofString "_law_rest.<locals>.looked") tq) → @LE.le Nat _ s.heap.objs.size c' →
      h'.get? lk = some (listOf vl'.toArray nl') → vl'.length = vl.length + (restF (come gs) upper k sl low high).2 →
      h'.get? r = some o → IsPair o (restF (come gs) upper k sl low high).1 → (r = se ∨ @LE.le Nat _ s.heap.objs.size r) → Q (.ref r) { s with heap := h', toks := tk' }) →
    wpAny (model PySem.Challenge.rw_ph0161_01.row.prog w) (ktrTop dp un gd cn cs L a ccd cl outer) (call (.ref 221) [.ref x, .ref lk, .ref se, .ref lo, .ref hi, .bool upper] []) Q E s
section
variable {w : World} {p : Program} {loose : List Str} {mean : ExcName → Option Value} {mg mb : Str → Option Value}
local macro_rules | `(tactic| walk_at "call ref") => `(tactic| (refine Mine.hold ?_))
local macro_rules | `(tactic| walk_at "exec Assign cons ListComp") => `(tactic| (refine Mine.hold ?_))
local macro_rules | `(tactic| walk_at "CompSrc") => `(tactic| (refine Mine.hold ?_))
local macro_rules | `(tactic| walk_at "binaryOp Add ref ref") => `(tactic| (refine Mine.hold ?_))
local macro_rules | `(tactic| walk_at "CompEnd") => `(tactic| (refine Mine.hold ?_))
local macro_rules | `(tactic| walk_at "subscriptTail Name UnaryOp ref int") => `(tactic| (k_here; k_dflt (apply Mine.item_last; k_asm; k_mem; assumption; omega; with_unfolding_all rfl; k_whole)))

set_option maxHeartbeats 16000000 in
theorem rest_0f {D D' : Nat} {gs : List Guest} (hin : RestC w p loose mean mg mb D' gs false 0) (hD : D + 5 ≤ D') (hD' : D' ≤ 895) (hgs : GuestsOk gs) : RestC w p loose mean mg mb D gs false (0 + 1) := by
  intro dp un gd cn cs a ccd cl outer A₀ base h₀ L m s Q E x l lk c' se lo hi qual sv sl low high vl nl t1 t2 t3 t4 B F X T hk hdp hun hadr htab hchd hrec hqual hse hsv hsl hs9 hlo hlo1 hlo2 hhi hhi1 hhi2 hlk hcap h218 hne h
  subst hqual
  simp only [List.forall_mem_cons, List.not_mem_nil, false_implies, implies_true, and_true] at hadr
  obtain N : News h₀ L s.heap [(lk, listOf vl.toArray nl), (218, tabObj (psOf c'))] := by
    intro q hq
    simp only [List.mem_cons, List.not_mem_nil, or_false] at hq
    rcases hq with rfl | rfl
    · exact ⟨hlk, hadr.1.2, hadr.1.1⟩
    · exact ⟨h218, hadr.2.2, hadr.2.1⟩
  revert X; k_fill; intro X
  refine wpAny_call ?_
  k_dflt ktr_enter
  intro g' L' h' tk' cells' G' F' N' Y' B' X' T'
  obtain ⟨co1, co2, co3, co4, co5, co6, co7, hE, d1', d2', d3', d4', d5', d6', d7'⟩ := PyProof.Rows.kc_seven Y'
  subst hE
  clear Y'
  (try simp only [List.cons_append, List.nil_append] at N')
  replace d1' : Obj.data _ = Data.cell none := d1'
  replace d2' : Obj.data _ = Data.cell none := d2'
  replace d3' : Obj.data _ = Data.cell none := d3'
  replace d4' : Obj.data _ = Data.cell (some (.bool false)) := d4'
  replace d5' : Obj.data _ = Data.cell (some (.ref se)) := d5'
  replace d6' : Obj.data _ = Data.cell (some (.ref lk)) := d6'
  replace d7' : Obj.data _ = Data.cell (some (.ref x)) := d7'
  have up := G'.hide
  simp only [List.map_cons, List.map_nil] at up
  obtain hse' : g'.IsList se sv.toArray := hse.at fun o e => up _ o e
  obtain hlo' : g'.IsList lo #[.int low.1 t1, .int low.2 t2] := hlo.at fun o e => up _ o e
  obtain hhi' : g'.IsList hi #[.int high.1 t3, .int high.2 t4] := hhi.at fun o e => up _ o e
  obtain b10 := htab.keeps up
  obtain b11 := hchd.keeps up
  obtain b12 := hrec.keeps up
  obtain l1 : @LT.lt Nat _ lk L' := G'.lt _ _ hlk
  obtain lsv := hsv.length
  rw [List.length_map] at lsv
  clear htab hchd hrec hlo hhi hse hlk h218 hadr up N F B T X
  (try dsimp only); (try k_fold)
  k_steps
  refine unhold ?_
  rename (Obj.data _ = Data.cell (some (Value.int _ _))) => dt
  rw [List.length_map, show sl.length = 1 by omega] at dt
  refine LCg.Assign_ListComp_U (F₀ := by k_asm) (by rfl) (by with_unfolding_all rfl) (by with_unfolding_all rfl) (by decide) (by rfl) (by decide) (by rfl) (by rfl) (by rfl) ?_
  k_steps
  refine unhold ?_
  rename (IsRange _ _ _ _ _ _ _ _) => hr
  replace hr : IsRange _ _ 0 ((high.2 : Int) + 1) 1 _ _ _ := hr
  refine LCg.CompSrc.range rfl (by assumption) (by assumption) hr (small_one (by decide) (by decide) (by omega) (by omega)) (n := high.2 + 1) (by rw [rangeSize_nat]; congr 1) (by rw [sizeLine_eq]; omega) ?_
  clear hr
  intro gg
  refine rest_spots ?_ ?_
  · intro i tt I oI C oC D9 m₂ ys news h9 tk9 E9 hi9 hC9 hx9 F9 N9 off9 ne9
    (try dsimp only); (try k_fold)
    k_steps
    refine unhold ?_
    rename_i l9 h10 F10 N10 l10
    obtain ⟨z1, z2, z3, z4⟩ := l10
    exact LCg.CompEnd.intro F10 N10 ((l9, _) :: news) (fun q hq => by simp only [List.mem_cons] at hq ⊢; rcases hq with a | a | a | a | a <;> simp [a]) ⟨⟨Nat.ne_of_gt z1, Nat.ne_of_gt z2, Nat.ne_of_gt z3⟩, off9⟩ trivial ⟨l9, tt, 0, rfl, rfl, allLt_mem z4⟩
  · intro ys ex hyl hsp
    refine fun D9 h9 tk9 F9 N9 o1 => ?_
    have N10 := news_swap N9
    simp only [List.cons_append, List.nil_append] at N10
    replace o1 := off1_mem o1
    clear N9
    rename_i hclr1 hclr2 hclr3
    clear hclr1 hclr2 hclr3
    (try dsimp only)
    k_steps
    refine unhold ?_
    refine bis_left_hit (D := D + 4) (t := 1) (low := low) (high := high) hin (by omega) hD' hgs B' F9 X' T' rfl (by show dp + 1 + 1 < D + 4; omega) (by show un + 3 < 3000 + 3 * (dp + 1); omega) N10 d7' d6' d5' d4' (by assumption) dt (by assumption) (by refine ⟨hne, ?_, ?_, ?_, ?_, ?_, ?_, ?_, ?_, ?_, ?_⟩ <;> omega)
      (by refine ⟨?_, ?_, ?_, ?_⟩ <;> exact Ne.symm (o1 (_, _) (List.mem_append_right _ (by k_mem)))) (fun c v hv => by obtain ⟨b, tk, nn, e, hm, hl⟩ := hsp c v hv; exact ⟨b, tk, nn, e, hm, hl (_, _) (by k_mem)⟩) hyl hse' hsv (by omega) rfl hs9 b10 b11 b12 hlo' hhi' hlo1 hlo2 hhi1 hhi2 hcap ?_
    intro h12 tk12 t12 vu nu vo no vl4 nl4 au ao ou oo ex4 F12 N12 gu go luv lov gau gao nau nao pu po evl le9 ecap bge ble
    clear F9 N10
    generalize hbb : bis (prb (come gs) false (restF (come gs) false 0) 1 sl) (getP high 1 + 0 - (getP low 1 + 0)) (getP low 1 + 0) (getP high 1 + 0) ⟨low, high, 0⟩ = bb at *
    obtain ⟨b0, st⟩ := bb
    dsimp only at pu po evl le9 ecap bge ble
    (try dsimp only); (try k_fold)
    k_steps
    refine unhold ?_
    refine kmk_add_ints (vs := sv) (ws := [.int ((b0 : Int)) _]) (ns := sl.map fun n => ((n : Nat) : Int)) (ms := [(b0 : Int)]) (by assumption) (by assumption) (hse'.at fun o e => Fr.keep (by assumption) _ o e) (by kmk_list) hsv (.cons _ _ .nil) ?_ (by rw [sizeLine_eq]; simp; omega)
    intro De ws' h' F' N' lD hI'
    rw [show (((b0 : Int)) : Int) = ((b0 - 0 : Nat) : Int) by omega] at hI'
    k_lt lD
    k_sweep
    k_steps
    refine unhold ?_
    obtain ⟨pc1, pt1, pt2, pn, pd1⟩ := pu
    obtain ⟨pc2, pt3, pt4, pm, pd2⟩ := po
    have nlk := N' (lk, listOf vl4.toArray nl4) (by k_mem)
    have n218 := N' (218, tabObj (psOf c')) (by k_mem)
    have nDe := N' (De, listOf ws'.toArray 0) (.head _)
    dsimp only at nlk n218 nDe
    have sub := sub_hide F'.keep (adr := [lk, 218]) (fun a ha => by simp only [List.mem_cons, List.not_mem_nil, or_false] at ha; rcases ha with rfl | rfl; exact nlk.2.2; exact n218.2.2)
    have gau' := gau.elim (sub au ou) fun hm => hideAll_get [lk, 218] (N' (au, ou) (.tail _ (.tail _ (.tail _ (.tail _ (.tail _ (.tail _ (.tail _ (.tail _ (.tail _ (.tail _ (.tail _ (.tail _ (.tail _ hm)))))))))))))).1 nau
    have gao' := gao.elim (sub ao oo) fun hm => hideAll_get [lk, 218] (N' (ao, oo) (.tail _ (.tail _ (.tail _ (.tail _ (.tail _ (.tail _ (.tail _ (.tail _ (.tail _ (.tail _ (.tail _ (.tail _ (.tail _ hm)))))))))))))).1 nao
    have gDe := hideAll_get [lk, 218] nDe.1 (by simp only [List.mem_cons, List.not_mem_nil, or_false]; exact fun z => z.elim (fun (z : @Eq Nat _ _) => by omega) (fun (z : @Eq Nat _ _) => by omega))
    have hlt : @LT.lt Nat _ L' _ := F'.ns.lt
    refine hin _ _ _ _ _ _ _ _ _ _ _ _ _ _ _ _ _ x l lk c' De au ao _ ws' (sl ++ [b0 - 0]) st.u st.o vl4 nl4 pt1 pt2 pt3 pt4 B' F' X' T' rfl (by show dp + 1 < D'; omega) (by show un + 3 < 3000 + 3 * (dp + 1); omega) (fun a ha => ?_) (b10.keeps sub) (b11.keeps sub) (b12.keeps sub) rfl
      ⟨_, gDe, rfl, _, rfl⟩ (by rw [List.map_append]; exact hI') (by rw [List.length_append, List.length_singleton]; omega) (snoc_le hs9 (by omega)) ⟨ou, gau', pc1, _, pd1⟩ le9.1 le9.2.1 ⟨oo, gao', pc2, _, pd2⟩ le9.2.2.1 le9.2.2.2 nlk.1 (by omega) n218.1 hne ?_
    · simp only [List.mem_cons, List.not_mem_nil, or_false] at ha
      rcases ha with rfl | rfl
      · exact ⟨nlk.2.2, nlk.2.1⟩
      · exact ⟨n218.2.2, n218.2.1⟩
    intro r h3 tk3 vl3 nl3 o3 kb3 e218 elk elen er pr fr
    have hat := restF_at_false (by omega : sl.length = 1) hbb
    rw [hat] at h
    (try dsimp only); (try k_unfold); (try dsimp only)
    exact h r h3 tk3 vl3 nl3 o3 (fun b o hb e => kb3 b o hb (F'.keep b o (G'.up b o e (by simpa using hb)))) e218 elk (by dsimp only; omega) er pr (.inr (Nat.le_trans G'.above (by
      rcases fr with rfl | fr
      · omega
      · exact Nat.le_trans (Nat.le_of_lt hlt) fr)))

set_option maxHeartbeats 16000000 in
theorem rest_0t {D D' : Nat} {gs : List Guest} (hin : RestC w p loose mean mg mb D' gs true 0) (hD : D + 5 ≤ D') (hD' : D' ≤ 895) (hgs : GuestsOk gs) : RestC w p loose mean mg mb D gs true (0 + 1) := by
  intro dp un gd cn cs a ccd cl outer A₀ base h₀ L m s Q E x l lk c' se lo hi qual sv sl low high vl nl t1 t2 t3 t4 B F X T hk hdp hun hadr htab hchd hrec hqual hse hsv hsl hs9 hlo hlo1 hlo2 hhi hhi1 hhi2 hlk hcap h218 hne h
  subst hqual
  simp only [List.forall_mem_cons, List.not_mem_nil, false_implies, implies_true, and_true] at hadr
  obtain N : News h₀ L s.heap [(lk, listOf vl.toArray nl), (218, tabObj (psOf c'))] := by
    intro q hq
    simp only [List.mem_cons, List.not_mem_nil, or_false] at hq
    rcases hq with rfl | rfl
    · exact ⟨hlk, hadr.1.2, hadr.1.1⟩
    · exact ⟨h218, hadr.2.2, hadr.2.1⟩
  revert X; k_fill; intro X
  refine wpAny_call ?_
  k_dflt ktr_enter
  intro g' L' h' tk' cells' G' F' N' Y' B' X' T'
  obtain ⟨co1, co2, co3, co4, co5, co6, co7, hE, d1', d2', d3', d4', d5', d6', d7'⟩ := PyProof.Rows.kc_seven Y'
  subst hE
  clear Y'
  (try simp only [List.cons_append, List.nil_append] at N')
  replace d1' : Obj.data _ = Data.cell none := d1'
  replace d2' : Obj.data _ = Data.cell none := d2'
  replace d3' : Obj.data _ = Data.cell none := d3'
  replace d4' : Obj.data _ = Data.cell (some (.bool true)) := d4'
  replace d5' : Obj.data _ = Data.cell (some (.ref se)) := d5'
  replace d6' : Obj.data _ = Data.cell (some (.ref lk)) := d6'
  replace d7' : Obj.data _ = Data.cell (some (.ref x)) := d7'
  have up := G'.hide
  simp only [List.map_cons, List.map_nil] at up
  obtain hse' : g'.IsList se sv.toArray := hse.at fun o e => up _ o e
  obtain hlo' : g'.IsList lo #[.int low.1 t1, .int low.2 t2] := hlo.at fun o e => up _ o e
  obtain hhi' : g'.IsList hi #[.int high.1 t3, .int high.2 t4] := hhi.at fun o e => up _ o e
  obtain b10 := htab.keeps up
  obtain b11 := hchd.keeps up
  obtain b12 := hrec.keeps up
  obtain l1 : @LT.lt Nat _ lk L' := G'.lt _ _ hlk
  obtain lsv := hsv.length
  rw [List.length_map] at lsv
  clear htab hchd hrec hlo hhi hse hlk h218 hadr up N F B T X
  (try dsimp only); (try k_fold)
  k_steps
  refine unhold ?_
  rename (Obj.data _ = Data.cell (some (Value.int _ _))) => dt
  rw [List.length_map, show sl.length = 1 by omega] at dt
  refine LCg.Assign_ListComp_U (F₀ := by k_asm) (by rfl) (by with_unfolding_all rfl) (by with_unfolding_all rfl) (by decide) (by rfl) (by decide) (by rfl) (by rfl) (by rfl) ?_
  k_steps
  refine unhold ?_
  rename (IsRange _ _ _ _ _ _ _ _) => hr
  replace hr : IsRange _ _ 0 ((high.2 : Int) + 1) 1 _ _ _ := hr
  refine LCg.CompSrc.range rfl (by assumption) (by assumption) hr (small_one (by decide) (by decide) (by omega) (by omega)) (n := high.2 + 1) (by rw [rangeSize_nat]; congr 1) (by rw [sizeLine_eq]; omega) ?_
  clear hr
  intro gg
  refine rest_spots ?_ ?_
  · intro i tt I oI C oC D9 m₂ ys news h9 tk9 E9 hi9 hC9 hx9 F9 N9 off9 ne9
    (try dsimp only); (try k_fold)
    k_steps
    refine unhold ?_
    rename_i l9 h10 F10 N10 l10
    obtain ⟨z1, z2, z3, z4⟩ := l10
    exact LCg.CompEnd.intro F10 N10 ((l9, _) :: news) (fun q hq => by simp only [List.mem_cons] at hq ⊢; rcases hq with a | a | a | a | a <;> simp [a]) ⟨⟨Nat.ne_of_gt z1, Nat.ne_of_gt z2, Nat.ne_of_gt z3⟩, off9⟩ trivial ⟨l9, tt, 0, rfl, rfl, allLt_mem z4⟩
  · intro ys ex hyl hsp
    refine fun D9 h9 tk9 F9 N9 o1 => ?_
    have N10 := news_swap N9
    simp only [List.cons_append, List.nil_append] at N10
    replace o1 := off1_mem o1
    clear N9
    rename_i hclr1 hclr2 hclr3
    clear hclr1 hclr2 hclr3
    (try dsimp only)
    k_steps
    refine unhold ?_
    refine bis_right_hit (D := D + 4) (t := 1) (low := low) (high := high) hin (by omega) hD' hgs B' F9 X' T' rfl (by show dp + 1 + 1 < D + 4; omega) (by show un + 3 < 3000 + 3 * (dp + 1); omega) N10 d7' d6' d5' d4' (by assumption) dt (by assumption) (by refine ⟨hne, ?_, ?_, ?_, ?_, ?_, ?_, ?_, ?_, ?_, ?_⟩ <;> omega)
      (by refine ⟨?_, ?_, ?_, ?_⟩ <;> exact Ne.symm (o1 (_, _) (List.mem_append_right _ (by k_mem)))) (fun c v hv => by obtain ⟨b, tk, nn, e, hm, hl⟩ := hsp c v hv; exact ⟨b, tk, nn, e, hm, hl (_, _) (by k_mem)⟩) hyl hse' hsv (by omega) rfl hs9 b10 b11 b12 hlo' hhi' hlo1 hlo2 hhi1 hhi2 hcap ?_
    intro h12 tk12 t12 vu nu vo no vl4 nl4 au ao ou oo ex4 F12 N12 gu go luv lov gau gao nau nao pu po evl le9 ecap bge ble
    clear F9 N10
    generalize hbb : bis (prb (come gs) true (restF (come gs) true 0) 1 sl) (getP high 1 + 1 - (getP low 1 + 1)) (getP low 1 + 1) (getP high 1 + 1) ⟨low, high, 0⟩ = bb at *
    obtain ⟨b0, st⟩ := bb
    dsimp only at pu po evl le9 ecap bge ble
    (try dsimp only); (try k_fold)
    k_steps
    refine unhold ?_
    refine kmk_add_ints (vs := sv) (ws := [.int ((b0 : Int) - 1) _]) (ns := sl.map fun n => ((n : Nat) : Int)) (ms := [(b0 : Int) - 1]) (by assumption) (by assumption) (hse'.at fun o e => Fr.keep (by assumption) _ o e) (by kmk_list) hsv (.cons _ _ .nil) ?_ (by rw [sizeLine_eq]; simp; omega)
    intro De ws' h' F' N' lD hI'
    rw [show (((b0 : Int) - 1) : Int) = ((b0 - 1 : Nat) : Int) by omega] at hI'
    k_lt lD
    k_sweep
    k_steps
    refine unhold ?_
    obtain ⟨pc1, pt1, pt2, pn, pd1⟩ := pu
    obtain ⟨pc2, pt3, pt4, pm, pd2⟩ := po
    have nlk := N' (lk, listOf vl4.toArray nl4) (by k_mem)
    have n218 := N' (218, tabObj (psOf c')) (by k_mem)
    have nDe := N' (De, listOf ws'.toArray 0) (.head _)
    dsimp only at nlk n218 nDe
    have sub := sub_hide F'.keep (adr := [lk, 218]) (fun a ha => by simp only [List.mem_cons, List.not_mem_nil, or_false] at ha; rcases ha with rfl | rfl; exact nlk.2.2; exact n218.2.2)
    have gau' := gau.elim (sub au ou) fun hm => hideAll_get [lk, 218] (N' (au, ou) (.tail _ (.tail _ (.tail _ (.tail _ (.tail _ (.tail _ (.tail _ (.tail _ (.tail _ (.tail _ (.tail _ (.tail _ (.tail _ hm)))))))))))))).1 nau
    have gao' := gao.elim (sub ao oo) fun hm => hideAll_get [lk, 218] (N' (ao, oo) (.tail _ (.tail _ (.tail _ (.tail _ (.tail _ (.tail _ (.tail _ (.tail _ (.tail _ (.tail _ (.tail _ (.tail _ (.tail _ hm)))))))))))))).1 nao
    have gDe := hideAll_get [lk, 218] nDe.1 (by simp only [List.mem_cons, List.not_mem_nil, or_false]; exact fun z => z.elim (fun (z : @Eq Nat _ _) => by omega) (fun (z : @Eq Nat _ _) => by omega))
    have hlt : @LT.lt Nat _ L' _ := F'.ns.lt
    refine hin _ _ _ _ _ _ _ _ _ _ _ _ _ _ _ _ _ x l lk c' De au ao _ ws' (sl ++ [b0 - 1]) st.u st.o vl4 nl4 pt1 pt2 pt3 pt4 B' F' X' T' rfl (by show dp + 1 < D'; omega) (by show un + 3 < 3000 + 3 * (dp + 1); omega) (fun a ha => ?_) (b10.keeps sub) (b11.keeps sub) (b12.keeps sub) rfl
      ⟨_, gDe, rfl, _, rfl⟩ (by rw [List.map_append]; exact hI') (by rw [List.length_append, List.length_singleton]; omega) (snoc_le hs9 (by omega)) ⟨ou, gau', pc1, _, pd1⟩ le9.1 le9.2.1 ⟨oo, gao', pc2, _, pd2⟩ le9.2.2.1 le9.2.2.2 nlk.1 (by omega) n218.1 hne ?_
    · simp only [List.mem_cons, List.not_mem_nil, or_false] at ha
      rcases ha with rfl | rfl
      · exact ⟨nlk.2.2, nlk.2.1⟩
      · exact ⟨n218.2.2, n218.2.1⟩
    intro r h3 tk3 vl3 nl3 o3 kb3 e218 elk elen er pr fr
    have hat := restF_at_true (by omega : sl.length = 1) hbb
    rw [hat] at h
    (try dsimp only); (try k_unfold); (try dsimp only)
    exact h r h3 tk3 vl3 nl3 o3 (fun b o hb e => kb3 b o hb (F'.keep b o (G'.up b o e (by simpa using hb)))) e218 elk (by dsimp only; omega) er pr (.inr (Nat.le_trans G'.above (by
      rcases fr with rfl | fr
      · omega
      · exact Nat.le_trans (Nat.le_of_lt hlt) fr)))

set_option maxHeartbeats 16000000 in
theorem rest_1t {D D' : Nat} {gs : List Guest} (hin : RestC w p loose mean mg mb D' gs true 1) (hD : D + 5 ≤ D') (hD' : D' ≤ 895) (hgs : GuestsOk gs) : RestC w p loose mean mg mb D gs true (1 + 1) := by
  intro dp un gd cn cs a ccd cl outer A₀ base h₀ L m s Q E x l lk c' se lo hi qual sv sl low high vl nl t1 t2 t3 t4 B F X T hk hdp hun hadr htab hchd hrec hqual hse hsv hsl hs9 hlo hlo1 hlo2 hhi hhi1 hhi2 hlk hcap h218 hne h
  subst hqual
  simp only [List.forall_mem_cons, List.not_mem_nil, false_implies, implies_true, and_true] at hadr
  obtain N : News h₀ L s.heap [(lk, listOf vl.toArray nl), (218, tabObj (psOf c'))] := by
    intro q hq
    simp only [List.mem_cons, List.not_mem_nil, or_false] at hq
    rcases hq with rfl | rfl
    · exact ⟨hlk, hadr.1.2, hadr.1.1⟩
    · exact ⟨h218, hadr.2.2, hadr.2.1⟩
  revert X; k_fill; intro X
  refine wpAny_call ?_
  k_dflt ktr_enter
  intro g' L' h' tk' cells' G' F' N' Y' B' X' T'
  obtain ⟨co1, co2, co3, co4, co5, co6, co7, hE, d1', d2', d3', d4', d5', d6', d7'⟩ := PyProof.Rows.kc_seven Y'
  subst hE
  clear Y'
  (try simp only [List.cons_append, List.nil_append] at N')
  replace d1' : Obj.data _ = Data.cell none := d1'
  replace d2' : Obj.data _ = Data.cell none := d2'
  replace d3' : Obj.data _ = Data.cell none := d3'
  replace d4' : Obj.data _ = Data.cell (some (.bool true)) := d4'
  replace d5' : Obj.data _ = Data.cell (some (.ref se)) := d5'
  replace d6' : Obj.data _ = Data.cell (some (.ref lk)) := d6'
  replace d7' : Obj.data _ = Data.cell (some (.ref x)) := d7'
  have up := G'.hide
  simp only [List.map_cons, List.map_nil] at up
  obtain hse' : g'.IsList se sv.toArray := hse.at fun o e => up _ o e
  obtain hlo' : g'.IsList lo #[.int low.1 t1, .int low.2 t2] := hlo.at fun o e => up _ o e
  obtain hhi' : g'.IsList hi #[.int high.1 t3, .int high.2 t4] := hhi.at fun o e => up _ o e
  obtain b10 := htab.keeps up
  obtain b11 := hchd.keeps up
  obtain b12 := hrec.keeps up
  obtain l1 : @LT.lt Nat _ lk L' := G'.lt _ _ hlk
  obtain lsv := hsv.length
  rw [List.length_map] at lsv
  clear htab hchd hrec hlo hhi hse hlk h218 hadr up N F B T X
  (try dsimp only); (try k_fold)
  k_steps
  refine unhold ?_
  rename (Obj.data _ = Data.cell (some (Value.int _ _))) => dt
  rw [List.length_map, show sl.length = 0 by omega] at dt
  refine LCg.Assign_ListComp_U (F₀ := by k_asm) (by rfl) (by with_unfolding_all rfl) (by with_unfolding_all rfl) (by decide) (by rfl) (by decide) (by rfl) (by rfl) (by rfl) ?_
  k_steps
  refine unhold ?_
  rename (IsRange _ _ _ _ _ _ _ _) => hr
  replace hr : IsRange _ _ 0 ((high.1 : Int) + 1) 1 _ _ _ := hr
  refine LCg.CompSrc.range rfl (by assumption) (by assumption) hr (small_one (by decide) (by decide) (by omega) (by omega)) (n := high.1 + 1) (by rw [rangeSize_nat]; congr 1) (by rw [sizeLine_eq]; omega) ?_
  clear hr
  intro gg
  refine rest_spots ?_ ?_
  · intro i tt I oI C oC D9 m₂ ys news h9 tk9 E9 hi9 hC9 hx9 F9 N9 off9 ne9
    (try dsimp only); (try k_fold)
    k_steps
    refine unhold ?_
    rename_i l9 h10 F10 N10 l10
    obtain ⟨z1, z2, z3, z4⟩ := l10
    exact LCg.CompEnd.intro F10 N10 ((l9, _) :: news) (fun q hq => by simp only [List.mem_cons] at hq ⊢; rcases hq with a | a | a | a | a <;> simp [a]) ⟨⟨Nat.ne_of_gt z1, Nat.ne_of_gt z2, Nat.ne_of_gt z3⟩, off9⟩ trivial ⟨l9, tt, 0, rfl, rfl, allLt_mem z4⟩
  · intro ys ex hyl hsp
    refine fun D9 h9 tk9 F9 N9 o1 => ?_
    have N10 := news_swap N9
    simp only [List.cons_append, List.nil_append] at N10
    replace o1 := off1_mem o1
    clear N9
    rename_i hclr1 hclr2 hclr3
    clear hclr1 hclr2 hclr3
    (try dsimp only)
    k_steps
    refine unhold ?_
    refine bis_right_hit (D := D + 4) (t := 0) (low := low) (high := high) hin (by omega) hD' hgs B' F9 X' T' rfl (by show dp + 1 + 1 < D + 4; omega) (by show un + 3 < 3000 + 3 * (dp + 1); omega) N10 d7' d6' d5' d4' (by assumption) dt (by assumption) (by refine ⟨hne, ?_, ?_, ?_, ?_, ?_, ?_, ?_, ?_, ?_, ?_⟩ <;> omega)
      (by refine ⟨?_, ?_, ?_, ?_⟩ <;> exact Ne.symm (o1 (_, _) (List.mem_append_right _ (by k_mem)))) (fun c v hv => by obtain ⟨b, tk, nn, e, hm, hl⟩ := hsp c v hv; exact ⟨b, tk, nn, e, hm, hl (_, _) (by k_mem)⟩) hyl hse' hsv (by omega) rfl hs9 b10 b11 b12 hlo' hhi' hlo1 hlo2 hhi1 hhi2 hcap ?_
    intro h12 tk12 t12 vu nu vo no vl4 nl4 au ao ou oo ex4 F12 N12 gu go luv lov gau gao nau nao pu po evl le9 ecap bge ble
    clear F9 N10
    generalize hbb : bis (prb (come gs) true (restF (come gs) true 1) 0 sl) (getP high 0 + 1 - (getP low 0 + 1)) (getP low 0 + 1) (getP high 0 + 1) ⟨low, high, 0⟩ = bb at *
    obtain ⟨b0, st⟩ := bb
    dsimp only at pu po evl le9 ecap bge ble
    (try dsimp only); (try k_fold)
    k_steps
    refine unhold ?_
    refine kmk_add_ints (vs := sv) (ws := [.int ((b0 : Int) - 1) _]) (ns := sl.map fun n => ((n : Nat) : Int)) (ms := [(b0 : Int) - 1]) (by assumption) (by assumption) (hse'.at fun o e => Fr.keep (by assumption) _ o e) (by kmk_list) hsv (.cons _ _ .nil) ?_ (by rw [sizeLine_eq]; simp; omega)
    intro De ws' h' F' N' lD hI'
    rw [show (((b0 : Int) - 1) : Int) = ((b0 - 1 : Nat) : Int) by omega] at hI'
    k_lt lD
    k_sweep
    k_steps
    refine unhold ?_
    obtain ⟨pc1, pt1, pt2, pn, pd1⟩ := pu
    obtain ⟨pc2, pt3, pt4, pm, pd2⟩ := po
    have nlk := N' (lk, listOf vl4.toArray nl4) (by k_mem)
    have n218 := N' (218, tabObj (psOf c')) (by k_mem)
    have nDe := N' (De, listOf ws'.toArray 0) (.head _)
    dsimp only at nlk n218 nDe
    have sub := sub_hide F'.keep (adr := [lk, 218]) (fun a ha => by simp only [List.mem_cons, List.not_mem_nil, or_false] at ha; rcases ha with rfl | rfl; exact nlk.2.2; exact n218.2.2)
    have gau' := gau.elim (sub au ou) fun hm => hideAll_get [lk, 218] (N' (au, ou) (.tail _ (.tail _ (.tail _ (.tail _ (.tail _ (.tail _ (.tail _ (.tail _ (.tail _ (.tail _ (.tail _ (.tail _ (.tail _ hm)))))))))))))).1 nau
    have gao' := gao.elim (sub ao oo) fun hm => hideAll_get [lk, 218] (N' (ao, oo) (.tail _ (.tail _ (.tail _ (.tail _ (.tail _ (.tail _ (.tail _ (.tail _ (.tail _ (.tail _ (.tail _ (.tail _ (.tail _ hm)))))))))))))).1 nao
    have gDe := hideAll_get [lk, 218] nDe.1 (by simp only [List.mem_cons, List.not_mem_nil, or_false]; exact fun z => z.elim (fun (z : @Eq Nat _ _) => by omega) (fun (z : @Eq Nat _ _) => by omega))
    have hlt : @LT.lt Nat _ L' _ := F'.ns.lt
    refine hin _ _ _ _ _ _ _ _ _ _ _ _ _ _ _ _ _ x l lk c' De au ao _ ws' (sl ++ [b0 - 1]) st.u st.o vl4 nl4 pt1 pt2 pt3 pt4 B' F' X' T' rfl (by show dp + 1 < D'; omega) (by show un + 3 < 3000 + 3 * (dp + 1); omega) (fun a ha => ?_) (b10.keeps sub) (b11.keeps sub) (b12.keeps sub) rfl
      ⟨_, gDe, rfl, _, rfl⟩ (by rw [List.map_append]; exact hI') (by rw [List.length_append, List.length_singleton]; omega) (snoc_le hs9 (by omega)) ⟨ou, gau', pc1, _, pd1⟩ le9.1 le9.2.1 ⟨oo, gao', pc2, _, pd2⟩ le9.2.2.1 le9.2.2.2 nlk.1 (by omega) n218.1 hne ?_
    · simp only [List.mem_cons, List.not_mem_nil, or_false] at ha
      rcases ha with rfl | rfl
      · exact ⟨nlk.2.2, nlk.2.1⟩
      · exact ⟨n218.2.2, n218.2.1⟩
    intro r h3 tk3 vl3 nl3 o3 kb3 e218 elk elen er pr fr
    have hat := restF_at_true (by omega : sl.length = 0) hbb
    rw [hat] at h
    (try dsimp only); (try k_unfold); (try dsimp only)
    exact h r h3 tk3 vl3 nl3 o3 (fun b o hb e => kb3 b o hb (F'.keep b o (G'.up b o e (by simpa using hb)))) e218 elk (by dsimp only; omega) er pr (.inr (Nat.le_trans G'.above (by
      rcases fr with rfl | fr
      · omega
      · exact Nat.le_trans (Nat.le_of_lt hlt) fr)))

set_option maxHeartbeats 16000000 in
theorem rest_1f {D D' : Nat} {gs : List Guest} (hin : RestC w p loose mean mg mb D' gs false 1) (hD : D + 5 ≤ D') (hD' : D' ≤ 895) (hgs : GuestsOk gs) : RestM w p loose mean mg mb D gs false (1 + 1) := by
  intro dp un gd cn cs a ccd cl outer A₀ base h₀ L m s Q E x l lk se lo hi sv sl low high vl nl t1 t2 t3 t4 B F X T hk hdp hun hadr htab hchd hse hsv hsl hs9 hlo hlo1 hlo2 hhi hhi1 hhi2 hlk hcap h218 hne h
  simp only [List.forall_mem_cons, List.not_mem_nil, false_implies, implies_true, and_true] at hadr
  obtain N : News h₀ L s.heap [(lk, listOf vl.toArray nl), (218, tabObj #[])] := by
    intro q hq
    simp only [List.mem_cons, List.not_mem_nil, or_false] at hq
    rcases hq with rfl | rfl
    · exact ⟨hlk, hadr.1.2, hadr.1.1⟩
    · exact ⟨h218, hadr.2.2, hadr.2.1⟩
  revert X; k_fill; intro X
  refine wpAny_call ?_
  k_dflt ktr_enter
  intro g' L' h' tk' cells' G' F' N' Y' B' X' T'
  obtain ⟨co1, co2, co3, co4, co5, co6, co7, hE, d1', d2', d3', d4', d5', d6', d7'⟩ := PyProof.Rows.kc_seven Y'
  subst hE
  clear Y'
  (try simp only [List.cons_append, List.nil_append] at N')
  replace d1' : Obj.data _ = Data.cell none := d1'
  replace d2' : Obj.data _ = Data.cell none := d2'
  replace d3' : Obj.data _ = Data.cell none := d3'
  replace d4' : Obj.data _ = Data.cell (some (.bool false)) := d4'
  replace d5' : Obj.data _ = Data.cell (some (.ref se)) := d5'
  replace d6' : Obj.data _ = Data.cell (some (.ref lk)) := d6'
  replace d7' : Obj.data _ = Data.cell (some (.ref x)) := d7'
  have up := G'.hide
  simp only [List.map_cons, List.map_nil] at up
  obtain hse' : g'.IsList se sv.toArray := hse.at fun o e => up _ o e
  obtain hlo' : g'.IsList lo #[.int low.1 t1, .int low.2 t2] := hlo.at fun o e => up _ o e
  obtain hhi' : g'.IsList hi #[.int high.1 t3, .int high.2 t4] := hhi.at fun o e => up _ o e
  obtain b10 := htab.keeps up
  obtain b11 := hchd.keeps up
  obtain l1 : @LT.lt Nat _ lk L' := G'.lt _ _ hlk
  obtain lsv := hsv.length
  rw [List.length_map] at lsv
  clear htab hchd hlo hhi hse hlk h218 hadr up N F B T X
  (try dsimp only); (try k_fold)
  k_steps
  refine unhold ?_
  rename_i c' oc vsc tq _ _ _ _ hoc hocv lcc lcf _ F99 N99
  replace hocv : vsc[1]? = some (.str (Str.ofString "_law_rest.<locals>.looked") tq) := hocv
  replace N99 := news_tab N99
  rename (Obj.data _ = Data.cell (some (Value.int _ _))) => dt
  rw [List.length_map, show sl.length = 0 by omega] at dt
  refine LCg.Assign_ListComp_U (F₀ := by k_asm) (by rfl) (by with_unfolding_all rfl) (by with_unfolding_all rfl) (by decide) (by rfl) (by decide) (by rfl) (by rfl) (by rfl) ?_
  k_steps
  refine unhold ?_
  rename (IsRange _ _ _ _ _ _ _ _) => hr
  replace hr : IsRange _ _ 0 ((high.1 : Int) + 1) 1 _ _ _ := hr
  refine LCg.CompSrc.range rfl (by assumption) (by assumption) hr (small_one (by decide) (by decide) (by omega) (by omega)) (n := high.1 + 1) (by rw [rangeSize_nat]; congr 1) (by rw [sizeLine_eq]; omega) ?_
  clear hr
  intro gg
  refine rest_spots ?_ ?_
  · intro i tt I oI C oC D9 m₂ ys news h9 tk9 E9 hi9 hC9 hx9 F9 N9 off9 ne9
    (try dsimp only); (try k_fold)
    k_steps
    refine unhold ?_
    rename_i l9 h10 F10 N10 l10
    obtain ⟨z1, z2, z3, z4⟩ := l10
    exact LCg.CompEnd.intro F10 N10 ((l9, _) :: news) (fun q hq => by simp only [List.mem_cons] at hq ⊢; rcases hq with a | a | a | a | a <;> simp [a]) ⟨⟨Nat.ne_of_gt z1, Nat.ne_of_gt z2, Nat.ne_of_gt z3⟩, off9⟩ trivial ⟨l9, tt, 0, rfl, rfl, allLt_mem z4⟩
  · intro ys ex hyl hsp
    refine fun D9 h9 tk9 F9 N9 o1 => ?_
    have N10 := news_swap N9
    simp only [List.cons_append, List.nil_append] at N10
    replace o1 := off1_mem o1
    clear N9
    rename_i hclr1 hclr2 hclr3
    clear hclr1 hclr2 hclr3
    (try dsimp only)
    k_steps
    refine unhold ?_
    refine bis_left_miss (D := D + 4) (t := 0) (low := low) (high := high) hin (by omega) hD' hgs B' F9 X' T' rfl (by show dp + 1 + 1 < D + 4; omega) (by show un + 3 < 3000 + 3 * (dp + 1); omega) N10 d7' d6' d5' d4' (by assumption) dt (by assumption) (by refine ⟨hne, ?_, ?_, ?_, ?_, ?_, ?_, ?_, ?_, ?_, ?_⟩ <;> omega)
      (by refine ⟨?_, ?_, ?_, ?_⟩ <;> exact Ne.symm (o1 (_, _) (List.mem_append_right _ (by k_mem)))) (fun c v hv => by obtain ⟨b, tk, nn, e, hm, hl⟩ := hsp c v hv; exact ⟨b, tk, nn, e, hm, hl (_, _) (by k_mem)⟩) hyl hse' hsv (by omega) rfl hs9 b10 b11 hoc hocv ⟨by omega, lcf⟩ hlo' hhi' hlo1 hlo2 hhi1 hhi2 hcap ?_
    intro h12 tk12 t12 vu nu vo no vl4 nl4 au ao ou oo ex4 F12 N12 gu go luv lov gau gao nau nao pu po evl le9 ecap bge ble
    clear F9 N10
    generalize hbb : bis (prb (come gs) false (restF (come gs) false 1) 0 sl) (getP high 0 + 0 - (getP low 0 + 0)) (getP low 0 + 0) (getP high 0 + 0) ⟨low, high, 0⟩ = bb at *
    obtain ⟨b0, st⟩ := bb
    dsimp only at pu po evl le9 ecap bge ble
    (try dsimp only); (try k_fold)
    k_steps
    refine unhold ?_
    refine kmk_add_ints (vs := sv) (ws := [.int ((b0 : Int)) _]) (ns := sl.map fun n => ((n : Nat) : Int)) (ms := [(b0 : Int)]) (by assumption) (by assumption) (hse'.at fun o e => Fr.keep (by assumption) _ o e) (by kmk_list) hsv (.cons _ _ .nil) ?_ (by rw [sizeLine_eq]; simp; omega)
    intro De ws' h' F' N' lD hI'
    rw [show (((b0 : Int)) : Int) = ((b0 - 0 : Nat) : Int) by omega] at hI'
    k_lt lD
    k_sweep
    k_steps
    refine unhold ?_
    obtain ⟨pc1, pt1, pt2, pn, pd1⟩ := pu
    obtain ⟨pc2, pt3, pt4, pm, pd2⟩ := po
    have nlk := N' (lk, listOf vl4.toArray nl4) (by k_mem)
    have n218 := N' (218, tabObj (psOf c')) (by k_mem)
    have nDe := N' (De, listOf ws'.toArray 0) (.head _)
    dsimp only at nlk n218 nDe
    have sub := sub_hide F'.keep (adr := [lk, 218]) (fun a ha => by simp only [List.mem_cons, List.not_mem_nil, or_false] at ha; rcases ha with rfl | rfl; exact nlk.2.2; exact n218.2.2)
    have gau' := gau.elim (sub au ou) fun hm => hideAll_get [lk, 218] (N' (au, ou) (.tail _ (.tail _ (.tail _ (.tail _ (.tail _ (.tail _ (.tail _ (.tail _ (.tail _ (.tail _ (.tail _ (.tail _ (.tail _ (.tail _ hm))))))))))))))).1 nau
    have gao' := gao.elim (sub ao oo) fun hm => hideAll_get [lk, 218] (N' (ao, oo) (.tail _ (.tail _ (.tail _ (.tail _ (.tail _ (.tail _ (.tail _ (.tail _ (.tail _ (.tail _ (.tail _ (.tail _ (.tail _ (.tail _ hm))))))))))))))).1 nao
    have gDe := hideAll_get [lk, 218] nDe.1 (by simp only [List.mem_cons, List.not_mem_nil, or_false]; exact fun z => z.elim (fun (z : @Eq Nat _ _) => by omega) (fun (z : @Eq Nat _ _) => by omega))
    have ncc := N' (c', oc) (by k_mem)
    have gcc := hideAll_get [lk, 218] ncc.1 (by simp only [List.mem_cons, List.not_mem_nil, or_false]; exact fun z => z.elim (fun (z : @Eq Nat _ _) => by omega) (fun (z : @Eq Nat _ _) => by omega))
    have hlt : @LT.lt Nat _ L' _ := F'.ns.lt
    refine hin _ _ _ _ _ _ _ _ _ _ _ _ _ _ _ _ _ x l lk c' De au ao _ ws' (sl ++ [b0 - 0]) st.u st.o vl4 nl4 pt1 pt2 pt3 pt4 B' F' X' T' rfl (by show dp + 1 < D'; omega) (by show un + 3 < 3000 + 3 * (dp + 1); omega) (fun a ha => ?_) (b10.keeps sub) (b11.keeps sub) ⟨c', oc, vsc, tq, rfl, gcc, hoc, hocv⟩ rfl
      ⟨_, gDe, rfl, _, rfl⟩ (by rw [List.map_append]; exact hI') (by rw [List.length_append, List.length_singleton]; omega) (snoc_le hs9 (by omega)) ⟨ou, gau', pc1, _, pd1⟩ le9.1 le9.2.1 ⟨oo, gao', pc2, _, pd2⟩ le9.2.2.1 le9.2.2.2 nlk.1 (by omega) n218.1 hne ?_
    · simp only [List.mem_cons, List.not_mem_nil, or_false] at ha
      rcases ha with rfl | rfl
      · exact ⟨nlk.2.2, nlk.2.1⟩
      · exact ⟨n218.2.2, n218.2.1⟩
    intro r h3 tk3 vl3 nl3 o3 kb3 e218 elk elen er pr fr
    have hat := restF_at_false (by omega : sl.length = 0) hbb
    rw [hat] at h
    (try dsimp only); (try k_unfold); (try dsimp only)
    exact h r h3 tk3 vl3 nl3 o3 c' oc vsc tq (fun b o hb e => kb3 b o hb (F'.keep b o (G'.up b o e (by simpa using hb)))) e218
      (kb3 c' oc (by simp only [List.mem_cons, List.not_mem_nil, or_false]; exact fun z => z.elim (fun (z : @Eq Nat _ _) => by omega) (fun (z : @Eq Nat _ _) => by omega)) ncc.1) hoc hocv (Nat.le_trans G'.above (by omega)) elk (by dsimp only; omega) er pr (.inr (Nat.le_trans G'.above (by
      rcases fr with rfl | fr
      · omega
      · exact Nat.le_trans (Nat.le_of_lt hlt) fr)))
end

end

-- part C13
section
theorem fresh_C13 : True := by w_top off; trivial
open LCg LCt
theorem isPair_sub {n0 n1 c0 c1 n : Nat} {t u : Tok} (h0 : c0 ≤ n0) (h1 : c1 ≤ n1) : IsPair (listOf #[Value.int ((n0 : Int) - (c0 : Int)) t, Value.int ((n1 : Int) - (c1 : Int)) u] n) (n0 - c0, n1 - c1) := by
  refine ⟨rfl, t, u, n, ?_⟩
  dsimp only
  rw [Int.ofNat_sub h0, Int.ofNat_sub h1]
theorem rowsLen {mv : List Guest} (hg : GuestsOk mv) {ys : List Value} {y : Str} {c : Nat} (hy : ∀ k < 4, (Txt.lower (nameOf k) == Txt.lower y) = (k / 2 == c)) (h : StrsAre ys (((mv.map rowOf).filter fun r => Txt.lower r.1 == Txt.lower y).map (·.2))) : ys.length = cP c mv := by
  rw [crowd_rows hg hy] at h
  rw [StrsAre.length h, List.length_map, crowd_eq]
section
variable {M : Model} {A : Around} {E : Value → Shared → Prop} {s : Shared} {h₀ : Heap} {L : Addr} {m : Str → Option Value} {news : List (Addr × Obj)}
theorem newList_S {vs : List Value} {Q : Value → Shared → Prop} (F : Fr h₀ L s.heap m) (N : News h₀ L s.heap news)
    (hsz : vs.length ≤ sizeLine)  (h : ∀ l h', Fr h₀ L h' m → News h₀ L h' ((l, listOf vs.toArray 0) :: news) → (∀ p ∈ news, p.1 < l) → @LT.lt Nat _ L l → Q (.ref l) { s with heap := h' }) : wpAny M A (newList vs) Q E s :=
  newList_N F N (fun h' F' N' => h _ h' F' N' (fun p hp => Heap.lt_size (N p hp).1) F.ns.lt) hsz
end
section
variable {w : World} {p : Program} {loose : List Str} {mean : ExcName → Option Value} {mg mb : Str → Option Value}
    {dp un : Nat} {gd : Option (List Code)} {cn : Str} {cs : Scope} {a : Addr} {ccd : Value} {cl : List (Str × Addr)} {outer : List Env} {A₀ : Around} {base h₀ : Heap} {L : Addr} {m : Str → Option Value} {s : Shared}
    {Q E : Value → Shared → Prop}
local macro_rules | `(tactic| walk_at "call ref") => `(tactic| (k_here; (with_reducible apply Mine.at139); k_dflt (apply Mine.get_allK; k_asm; k_asm; k_asm; k_asm; k_asm; rfl; ktr_room; (apply Mine.tabK; assumption; k_asm); decide; decide +kernel; k_whole); intro _ _ _ _ _ _ o1 _; (try simp only [LCg.Off1, and_true] at o1); (try dsimp only); (try k_sweep)))
local macro_rules | `(tactic| walk_at "call builtin:len") => `(tactic| (refine Mine.hold ?_))
local macro_rules | `(tactic| walk_at "newList") => `(tactic| (k_here; k_dflt (apply Mine.newList_S; k_asm; k_asm; size_fits; k_whole); intro _ _ _ _ l1 _; (try k_lt l1); (try k_sweep)))
local macro_rules | `(tactic| k_inst) => `(tactic| exact Mine.inst_base (by assumption) (by k_asm))
set_option maxHeartbeats 8000000 in
theorem counts_spec (B : Below A₀ base outer h₀) (F : Fr h₀ L s.heap m) (X : (hd.heap_39 w.params).In h₀) (T : Top p loose mean mg mb h₀) (hk : cs.kind = .function)
    (hdp : dp < 900) (hun : un < 9000) {x l wl : Addr} {mv : List Guest} {n0 n1 : Nat} {t1 t2 : Tok} {coming : Bool} (hg : GuestsOk mv) (hT : TableAt s.heap w.params x l (mv.map rowOf)) (hw : s.heap.IsList wl #[.int n0 t1, .int n1 t2]) (h0 : cP 0 mv ≤ n0) (h1 : cP 1 mv ≤ n1) (hn0 : n0 ≤ 1000) (hn1 : n1 ≤ 1000)
    (h : ∀ r h' tk' o, (∀ b o, s.heap.get? b = some o → h'.get? b = some o) → @LE.le Nat _ s.heap.objs.size r → h'.get? r = some o → IsPair o (pairMv (n0, n1) coming mv) → Q (.ref r) { s with heap := h', toks := tk' }) :
    wpAny (model PySem.Challenge.rw_ph0161_01.row.prog w) (ktrTop dp un gd cn cs L a ccd cl outer) (call (.ref 228) [.ref x, .ref wl, .bool coming] []) Q E s := by
  obtain ⟨dx, tk0, tvs, tn, hx1, hx2, hx3, -, hgl⟩ := hT.at_
  rw [List.length_map] at hgl
  have N : News h₀ L s.heap [] := News.nil
  revert X; k_fill; intro X
  refine wpAny_call ?_
  k_dflt ktr_enter
  intro g' L' h' G' F' N' B' X' T'
  obtain I' : InstAt g' x (instObj 200 dx) 200 (some (dictOf [⟨PyData.keyHash w.params (Str.ofString "_headers"), .str (Str.ofString "_headers") tk0, .ref l⟩] 1)) := ⟨G'.nil _ _ hx1, rfl, rfl, G'.nil _ _ hx2⟩
  obtain hT' : TableAt g' w.params x l (mv.map rowOf) := hT.keeps G'.nil
  obtain hw' : g'.IsList wl #[.int n0 t1, .int n1 t2] := hw.at fun o e => G'.nil _ o e
  clear hx1 hx2 hx3 hT hw
  (try dsimp only); (try k_fold)
  k_steps
  refine unhold ?_
  rename (StrsAre _ _) => hy9
  rename (News _ _ _ _) => N9
  have e9 := rowsLen hg (c := 0) (fun k hk => (lower_name k hk).2.2.1) hy9
  refine len_list (items := _) ⟨_, (News.get N9 (.head _)), rfl, _, rfl⟩ (by rw [List.size_toArray]; omega) ?_
  rw [List.size_toArray, e9]
  clear hy9 e9
  (try dsimp only); (try k_fold)
  k_steps
  refine unhold ?_
  rename (StrsAre _ _) => hy8
  rename (News _ _ _ _) => N8
  have e8 := rowsLen hg (c := 1) (fun k hk => (lower_name k hk).2.2.2.2) hy8
  refine len_list (items := _) ⟨_, (News.get N8 (.head _)), rfl, _, rfl⟩ (by rw [List.size_toArray]; omega) ?_
  rw [List.size_toArray, e8]
  clear hy8 e8
  (try dsimp only); (try k_fold)
  k_steps
  all_goals (try dsimp only); all_goals (try k_unfold); all_goals (try dsimp only)
  · obtain e : coming = true := by assumption
    subst e
    rename (@LT.lt Nat _ L' _) => l0
    rename (Fr _ _ _ _) => F9
    rename (News _ _ _ _) => N9
    exact h _ _ _ _ (fun b o e => F9.keep b o (G'.nil b o e)) (Nat.le_trans G'.above (Nat.le_of_lt l0)) (N9 _ (.head _)).1 ⟨rfl, _, _, 0, rfl⟩
  · obtain e : coming = false := by assumption
    subst e
    rename (@LT.lt Nat _ L' _) => l0
    rename (Fr _ _ _ _) => F9
    rename (News _ _ _ _) => N9
    exact h _ _ _ _ (fun b o e => F9.keep b o (G'.nil b o e)) (Nat.le_trans G'.above (Nat.le_of_lt l0)) (N9 _ (.head _)).1 (isPair_sub (n := 0) h0 h1)
end

end

-- part C13b
section
theorem fresh_C13b : True := by w_top off; trivial
open LCg LCt
theorem headers_end {P : Params} {Q : Value → Shared → Prop} {s : Shared} {h₀ h1 g' h9 : Heap} {L L' x dx l : Addr} {m m9 : Str → Option Value} {news more : List (Addr × Obj)} {tk9 t : Nat}
    (h : ∀ x dx l h' tk' t, Fr h₀ L h' m → News h₀ L h' ((l, listOf #[] 0) :: (x, instObj 200 dx) :: (dx, dictOf [⟨PyData.keyHash P (Str.ofString "_headers"), .str (Str.ofString "_headers") t, .ref l⟩] 1) :: news) → (∀ p ∈ news, p.1 < dx) → @LT.lt Nat _ dx x → @LT.lt Nat _ x l → Q (.ref x) { s with heap := h', toks := tk' })
    (F1 : Fr h₀ L h1 m) (N1 : News h₀ L h1 ((x, instObj 200 dx) :: (dx, dictOf [] 0) :: news)) (l1 : ∀ p ∈ news, p.1 < dx) (l2 : dx < x) (G : Grown [(x, instObj 200 dx), (dx, dictOf [] 0)] h1 g' L') (F9 : Fr g' L' h9 m9) (lx : x < l ∧ dx < l)
    (N9 : News g' L' h9 ((l, listOf #[] 0) :: (x, instObj 200 dx) :: (dx, dictOf [⟨PyData.keyHash P (Str.ofString "_headers"), .str (Str.ofString "_headers") t, .ref l⟩] 1) :: more)) : Q (.ref x) { s with heap := h9, toks := tk9 } := by
  have kb : KeepBut [x, dx] h1 h9 := fun b o hb e => F9.keep b o (G.up b o e (by simpa using hb))
  have nx := N1 _ (.head _)
  have nd := N1 _ (.tail _ (.head _))
  have ml := N9 _ (.head _)
  have F' : Fr h₀ L h9 m := fr_butL F1 kb fun a ha => by
    simp only [List.mem_cons, List.not_mem_nil, or_false] at ha
    rcases ha with rfl | rfl
    · exact ⟨nx.2.2, nx.2.1⟩
    · exact ⟨nd.2.2, nd.2.1⟩
  have ne1 : @Ne Nat l x := Nat.ne_of_gt lx.1
  have ne2 : @Ne Nat l dx := Nat.ne_of_gt lx.2
  have up : ∀ o, h1.get? l = some o → False := fun o e => by
    have := G.up l o e (by simp only [List.map_cons, List.map_nil, List.mem_cons, List.not_mem_nil, or_false]; rintro (z | z); exact ne1 z; exact ne2 z)
    rw [ml.2.2] at this; cases this
  refine h x dx l h9 tk9 t F' (fun q hq => ?_) l1 l2 lx.1
  rcases List.mem_cons.mp hq with rfl | hq
  · refine ⟨ml.1, fun e => ?_, ?_⟩
    · obtain ⟨o, _, _, hL, _⟩ := F1.ns
      have e' : l = L := e
      rw [← e'] at hL
      exact up _ hL
    · cases q : h₀.get? l with
      | none => rfl
      | some o => exact (up _ (F1.keep _ _ q)).elim
  rcases List.mem_cons.mp hq with rfl | hq
  · exact ⟨(N9 _ (.tail _ (.head _))).1, nx.2⟩
  rcases List.mem_cons.mp hq with rfl | hq
  · exact ⟨(N9 _ (.tail _ (.tail _ (.head _)))).1, nd.2⟩
  have nq := N1 q (.tail _ (.tail _ hq))
  refine ⟨kb q.1 q.2 ?_ nq.1, nq.2⟩
  have z1 := l1 q hq
  simp only [List.mem_cons, List.not_mem_nil, or_false]
  rintro (z | z)
  · exact Nat.lt_irrefl _ (Nat.lt_trans (z ▸ z1) l2)
  · exact Nat.lt_irrefl _ (z ▸ z1)
section
variable {w : World} {p : Program} {loose : List Str} {mean : ExcName → Option Value} {mg mb : Str → Option Value}
    {dp un : Nat} {gd : Option (List Code)} {cn : Str} {cs : Scope} {a : Addr} {ccd : Value} {cl : List (Str × Addr)} {outer : List Env} {A₀ : Around} {base h₀ : Heap} {L : Addr} {m : Str → Option Value} {s : Shared}
    {Q E : Value → Shared → Prop}
set_option maxHeartbeats 8000000 in
theorem headers_spec (B : Below A₀ base outer h₀) (F : Fr h₀ L s.heap m) (X : (hd.heap_39 w.params).In h₀) (T : Top p loose mean mg mb h₀) (hk : cs.kind = .function)
    (hdp : dp < 800) (hun : un < 6000)
    {news : List (Addr × Obj)} (N : News h₀ L s.heap news)
    (h : ∀ x dx l h' tk' t, Fr h₀ L h' m → News h₀ L h' ((l, listOf #[] 0) :: (x, instObj 200 dx) :: (dx, dictOf [⟨PyData.keyHash w.params (Str.ofString "_headers"), .str (Str.ofString "_headers") t, .ref l⟩] 1) :: news) → (∀ p ∈ news, p.1 < dx) → @LT.lt Nat _ dx x → @LT.lt Nat _ x l → Q (.ref x) { s with heap := h', toks := tk' }) :
    wpAny (model PySem.Challenge.rw_ph0161_01.row.prog w) (ktrTop dp un gd cn cs L a ccd cl outer) (call (.ref 200) [] []) Q E s := by
  revert X; k_fill; intro X
  k_dflt (refine' call_cls F X N ?k4 ?k5 ?k6 ?_; (case k4 => k_is); (case k5 => k_is); (case k6 => k_is))
  intro x dx h1 F1 N1 l1 l2
  clear N
  have N2 : News h₀ L h1 [(x, instObj 200 dx), (dx, dictOf [] 0)] := fun q hq => N1 q (by
    simp only [List.mem_cons, List.not_mem_nil, or_false] at hq
    rcases hq with rfl | rfl
    · exact .head _
    · exact .tail _ (.head _))
  k_dflt ktr_enter
  intro g' L' h' G' F' N' B' X' T'
  obtain m1 : @LT.lt Nat _ x L' := G'.lt _ _ (N1 _ (.head _)).1
  obtain m2 : @LT.lt Nat _ dx x := l2
  (try dsimp only); (try k_fold)
  k_steps
  rename (Fr _ _ _ _) => F9
  rename (News _ _ _ _) => N9
  exact ⟨rfl, headers_end (news := news) h F1 N1 l1 l2 G' F9 (by assumption) N9⟩
end

end

-- part Lp
section
theorem fresh_Lp : True := by w_top off; trivial
local macro_rules | `(tactic| walk_at "zz9") => `(tactic| fail)
local macro_rules | `(tactic| walk_at "zz9") => `(tactic| fail)
local macro_rules | `(tactic| walk_at "zz9") => `(tactic| fail)
local macro_rules | `(tactic| walk_at "zz9") => `(tactic| fail)
section
variable {prog : Program} {w : World} {A : Around} {E : Value → Shared → Prop} {s : Shared} {env : Env} {h₀ : Heap} {target : Expr} {body : List Stmt} {Q : Flow → Shared → Prop}
inductive LoopEndM (h₀ : Heap) (L I : Addr) (oI : Obj) (Jn : (Str → Option Value) → List (Addr × Obj) → Prop) (s : Shared) (f : Flow) (s₃ : Shared) : Prop
  | mk (hf : f = .next ∨ f = .cont) (h' : Heap) (tk : Nat) (m' : Str → Option Value) (nx' : List (Addr × Obj)) (hs : s₃ = { s with heap := h', toks := tk }) (F : Fr h₀ L h' m') (N : News h₀ L h' ((I, oI) :: nx')) (off : ∀ p ∈ nx', p.1 ≠ I) (j : Jn m' nx')
/-- a loop over a list that stands in the base or on the ledger, its turns of any kind -/
theorem iter_M {l : Addr} {lo : Obj} {vs : List Value} {n : Nat} {m₀ : Str → Option Value} {news : List (Addr × Obj)} (hh : A.handled = none) (hc : lo.cls = .type "list") (hd : lo.data = .seq vs.toArray n) (F : Fr h₀ env.locals s.heap m₀) (N : News h₀ env.locals s.heap news)
    (J : Nat → (Str → Option Value) → List (Addr × Obj) → Prop) (hsrc : ∀ i m nx, J i m nx → h₀.get? l = some lo ∨ (l, lo) ∈ nx) (hj : J 0 m₀ news)
    (turn : ∀ i v m₁ nx h tk I oI, vs[i]? = some v → J i m₁ nx → (∀ p ∈ nx, p.1 ≠ I) → (∀ p ∈ news, @LT.lt Nat _ p.1 I) → @LT.lt Nat _ env.locals I → Fr h₀ env.locals h m₁ → News h₀ env.locals h ((I, oI) :: nx) →
      wpAny (model prog w) A (assign target env v) (fun _ s₃ => wpAny (model prog w) A (execs body env) (LoopEndM h₀ env.locals I oI (J (i + 1)) s) E s₃) E { s with heap := h, toks := tk })
    (done : ∀ m₁ nx h tk, J vs.length m₁ nx → Fr h₀ env.locals h m₁ → News h₀ env.locals h nx → Q .next { s with heap := h, toks := tk }) :
    wpAny (model prog w) A (pyIter (.ref l)) (fun it s₂ => TurnsAt prog w A h₀ env target body Q E it s₂) E s := by
  have hlg : ∀ i m nx h, J i m nx → Fr h₀ env.locals h m → News h₀ env.locals h nx → h.get? l = some lo := fun i m nx h j F N => (hsrc i m nx j).elim (F.keep _ _) fun q => (N _ q).1
  have hl0 := hlg 0 m₀ news s.heap hj F N
  have hls : s.heap.IsList l vs.toArray := ⟨lo, hl0, hc, n, hd⟩
  have hlt : l < s.heap.objs.size := Heap.lt_size hl0
  have hne : l ≠ s.heap.objs.size := Nat.ne_of_lt hlt
  have hLl : env.locals ≠ l := fun e => by
    obtain ⟨o, es, ep, hL, hdd, _⟩ := F.ns
    rw [e, hl0] at hL; cases hL
    rw [hd] at hdd; cases hdd
  refine wpAny_pyIter_list hls ?_
  refine ⟨s.heap.objs.size, [s.heap.objs.size, l], [s.heap.objs.size], vs.toArray.size, _, _, _, m₀, news, J, rfl, KTurns.ofWalks (Walks.list hh s.heap.objs.size l hne vs.toArray) fun i v s Q E st q => letGo_listiter st.1 q, ?_, ?_, ?_, ⟨⟨_, Heap.get?_push_size _ rfl, rfl, rfl⟩, hls.at fun o e => Heap.get?_push_of_some _ e⟩, F.push _, (fun p hp => ⟨Heap.get?_push_of_some _ (N p hp).1, (N p hp).2⟩), hj, ?_, ?_⟩
  · intro hm
    rcases List.mem_cons.mp hm with e | hm
    · exact absurd F.ns.lt (e ▸ Nat.lt_irrefl _)
    · exact hLl (List.mem_singleton.mp hm)
  · intro b hb
    rw [List.mem_singleton.mp hb]
    exact next_is_new F
  · intro p hp hI
    exact absurd (Heap.lt_size (N p hp).1) ((List.mem_singleton.mp hI) ▸ Nat.lt_irrefl _)
  · intro i v m₁ nx h₁ tk₁ own hi hP hJ hoff hfp hget hall hst F₁ N₁
    obtain ⟨⟨oI, hoI, _⟩, _⟩ := id hst
    have hI : (s.heap.objs.size, oI) ∈ own := hall _ (.head _) (next_is_new F) _ hoI
    have N₁' : News h₀ env.locals h₁ nx := fun p hp => N₁ p (List.mem_append_right _ hp)
    have hlo := hlg _ _ _ _ hJ F₁ N₁'
    refine wpAny_mono (turn i v m₁ nx h₁ tk₁ s.heap.objs.size oI (by simpa using hP) hJ (fun p hp e => hoff p hp (by rw [List.mem_singleton]; exact e)) (fun p hp => Heap.lt_size (N p hp).1) F.ns.lt F₁ (fun p hp => by
      rcases List.mem_cons.mp hp with rfl | hp
      · exact N₁ _ (List.mem_append_left _ hI)
      · exact N₁' p hp)) (fun _ s₃ h₃ => wpAny_mono h₃ (fun f s₄ h₄ => ?_) fun _ _ e => e) fun _ _ e => e
    obtain ⟨hf, h', tk', m', nx', rfl, F', N', off', hJ'⟩ := h₄
    have fin : LoopStepU h₀ env.locals [s.heap.objs.size] own (J (i + 1)) { s with heap := h₁, toks := tk₁ } .next { s with heap := h', toks := tk' } := by
      refine ⟨rfl, h', tk', m', nx', rfl, F', fun p hp => ?_, fun p hp e => off' p hp (List.mem_singleton.mp e), hJ'⟩
      have N'' : News h₀ env.locals h' nx' := fun q hq => N' q (.tail _ hq)
      rcases List.mem_append.mp hp with hp | hp
      · have h1 := hget p hp
        rcases List.mem_cons.mp (hfp p hp) with e | e
        · rw [e, hoI] at h1
          have h2 : p.2 = oI := (Option.some.inj h1).symm
          have h3 := N' _ (.head _)
          refine ⟨?_, ?_⟩
          · rw [e, h2]; exact h3.1
          · rw [e]; exact h3.2
        · have e' := List.mem_singleton.mp e
          rw [e', hlo] at h1
          have h2 : p.2 = lo := (Option.some.inj h1).symm
          refine ⟨?_, (N₁ p (List.mem_append_left _ hp)).2⟩
          rw [e', h2]
          exact hlg _ _ _ _ hJ' F' N''
      · exact N'' p hp
    rcases hf with rfl | rfl
    · exact .next fin
    · exact .cont fin
  · intro h' tk m' nx' F' N' _ hJ
    exact done m' nx' h' tk (by simpa using hJ) F' N'
/-- a loop over a tuple -/
theorem iter_Mt {l : Addr} {lo : Obj} {vs : List Value} {n : Nat} {m₀ : Str → Option Value} {news : List (Addr × Obj)} (hh : A.handled = none) (hc : lo.cls = .type "tuple") (hd : lo.data = .seq vs.toArray n) (F : Fr h₀ env.locals s.heap m₀) (N : News h₀ env.locals s.heap news)
    (J : Nat → (Str → Option Value) → List (Addr × Obj) → Prop) (hsrc : ∀ i m nx, J i m nx → h₀.get? l = some lo ∨ (l, lo) ∈ nx) (hj : J 0 m₀ news)
    (turn : ∀ i v m₁ nx h tk I oI, vs[i]? = some v → J i m₁ nx → (∀ p ∈ nx, p.1 ≠ I) → (∀ p ∈ news, @LT.lt Nat _ p.1 I) → @LT.lt Nat _ env.locals I → Fr h₀ env.locals h m₁ → News h₀ env.locals h ((I, oI) :: nx) →
      wpAny (model prog w) A (assign target env v) (fun _ s₃ => wpAny (model prog w) A (execs body env) (LoopEndM h₀ env.locals I oI (J (i + 1)) s) E s₃) E { s with heap := h, toks := tk })
    (done : ∀ m₁ nx h tk, J vs.length m₁ nx → Fr h₀ env.locals h m₁ → News h₀ env.locals h nx → Q .next { s with heap := h, toks := tk }) :
    wpAny (model prog w) A (pyIter (.ref l)) (fun it s₂ => TurnsAt prog w A h₀ env target body Q E it s₂) E s := by
  have hlg : ∀ i m nx h, J i m nx → Fr h₀ env.locals h m → News h₀ env.locals h nx → h.get? l = some lo := fun i m nx h j F N => (hsrc i m nx j).elim (F.keep _ _) fun q => (N _ q).1
  have hl0 := hlg 0 m₀ news s.heap hj F N
  have hls : s.heap.IsTuple l vs.toArray := ⟨lo, hl0, hc, n, hd⟩
  have hlt : l < s.heap.objs.size := Heap.lt_size hl0
  have hne : l ≠ s.heap.objs.size := Nat.ne_of_lt hlt
  have hLl : env.locals ≠ l := fun e => by
    obtain ⟨o, es, ep, hL, hdd, _⟩ := F.ns
    rw [e, hl0] at hL; cases hL
    rw [hd] at hdd; cases hdd
  refine wpAny_pyIter_tuple hls ?_
  refine ⟨s.heap.objs.size, [s.heap.objs.size, l], [s.heap.objs.size], vs.toArray.size, _, _, _, m₀, news, J, rfl, KTurns.ofWalks (Walks.tuple hh s.heap.objs.size l hne vs.toArray) fun i v s Q E st q => letGo_tupleiter st.1 q, ?_, ?_, ?_, ⟨⟨_, Heap.get?_push_size _ rfl, rfl, rfl⟩, hls.at fun o e => Heap.get?_push_of_some _ e⟩, F.push _, (fun p hp => ⟨Heap.get?_push_of_some _ (N p hp).1, (N p hp).2⟩), hj, ?_, ?_⟩
  · intro hm
    rcases List.mem_cons.mp hm with e | hm
    · exact absurd F.ns.lt (e ▸ Nat.lt_irrefl _)
    · exact hLl (List.mem_singleton.mp hm)
  · intro b hb
    rw [List.mem_singleton.mp hb]
    exact next_is_new F
  · intro p hp hI
    exact absurd (Heap.lt_size (N p hp).1) ((List.mem_singleton.mp hI) ▸ Nat.lt_irrefl _)
  · intro i v m₁ nx h₁ tk₁ own hi hP hJ hoff hfp hget hall hst F₁ N₁
    obtain ⟨⟨oI, hoI, _⟩, _⟩ := id hst
    have hI : (s.heap.objs.size, oI) ∈ own := hall _ (.head _) (next_is_new F) _ hoI
    have N₁' : News h₀ env.locals h₁ nx := fun p hp => N₁ p (List.mem_append_right _ hp)
    have hlo := hlg _ _ _ _ hJ F₁ N₁'
    refine wpAny_mono (turn i v m₁ nx h₁ tk₁ s.heap.objs.size oI (by simpa using hP) hJ (fun p hp e => hoff p hp (by rw [List.mem_singleton]; exact e)) (fun p hp => Heap.lt_size (N p hp).1) F.ns.lt F₁ (fun p hp => by
      rcases List.mem_cons.mp hp with rfl | hp
      · exact N₁ _ (List.mem_append_left _ hI)
      · exact N₁' p hp)) (fun _ s₃ h₃ => wpAny_mono h₃ (fun f s₄ h₄ => ?_) fun _ _ e => e) fun _ _ e => e
    obtain ⟨hf, h', tk', m', nx', rfl, F', N', off', hJ'⟩ := h₄
    have fin : LoopStepU h₀ env.locals [s.heap.objs.size] own (J (i + 1)) { s with heap := h₁, toks := tk₁ } .next { s with heap := h', toks := tk' } := by
      refine ⟨rfl, h', tk', m', nx', rfl, F', fun p hp => ?_, fun p hp e => off' p hp (List.mem_singleton.mp e), hJ'⟩
      have N'' : News h₀ env.locals h' nx' := fun q hq => N' q (.tail _ hq)
      rcases List.mem_append.mp hp with hp | hp
      · have h1 := hget p hp
        rcases List.mem_cons.mp (hfp p hp) with e | e
        · rw [e, hoI] at h1
          have h2 : p.2 = oI := (Option.some.inj h1).symm
          have h3 := N' _ (.head _)
          refine ⟨?_, ?_⟩
          · rw [e, h2]; exact h3.1
          · rw [e]; exact h3.2
        · have e' := List.mem_singleton.mp e
          rw [e', hlo] at h1
          have h2 : p.2 = lo := (Option.some.inj h1).symm
          refine ⟨?_, (N₁ p (List.mem_append_left _ hp)).2⟩
          rw [e', h2]
          exact hlg _ _ _ _ hJ' F' N''
      · exact N'' p hp
    rcases hf with rfl | rfl
    · exact .next fin
    · exact .cont fin
  · intro h' tk m' nx' F' N' _ hJ
    exact done m' nx' h' tk (by simpa using hJ) F' N'
/-- a loop over a range -/
theorem iter_Mr {rgR : Addr} {rgA rgB : Int} {tA tB tC : Tok} {n : Nat} {m₀ : Str → Option Value} {news : List (Addr × Obj)} (hh : A.handled = none) (hr : IsRange s.heap rgR rgA rgB 1 tA tB tC) (hsm : Builtin.Range.small rgA rgB 1 = true) (hn : Builtin.Range.rangeSize rgA rgB 1 = ((n : Nat) : Int)) (F : Fr h₀ env.locals s.heap m₀) (N : News h₀ env.locals s.heap news)
    (J : Nat → (Str → Option Value) → List (Addr × Obj) → Prop) (hj : J 0 m₀ news)
    (turn : ∀ i (t : Tok) m₁ nx h tk I oI, i < n → J i m₁ nx → (∀ p ∈ nx, p.1 ≠ I) → (∀ p ∈ news, @LT.lt Nat _ p.1 I) → @LT.lt Nat _ env.locals I → Fr h₀ env.locals h m₁ → News h₀ env.locals h ((I, oI) :: nx) →
      wpAny (model prog w) A (assign target env (.int (rgA + (i : Int)) t)) (fun _ s₃ => wpAny (model prog w) A (execs body env) (LoopEndM h₀ env.locals I oI (J (i + 1)) s) E s₃) E { s with heap := h, toks := tk })
    (done : ∀ m₁ nx h tk, J n m₁ nx → Fr h₀ env.locals h m₁ → News h₀ env.locals h nx → Q .next { s with heap := h, toks := tk })
    (htg : ∀ I v, letOwnedTupleGo target (.ref I) v = pure () := by intro _ _; rfl) :
    wpAny (model prog w) A (pyIter (.ref rgR)) (fun it s₂ => TurnsAt prog w A h₀ env target body Q E it s₂) E s := by
  refine wpAny_pyIter_range hr hsm ?_
  refine ⟨s.heap.objs.size, [s.heap.objs.size], [s.heap.objs.size], n, _, _, _, m₀, news, J, rfl, KTurns.ofWalks (LCg.range_walks hh rgA n) fun i v s Q E st q => by rw [htg]; exact wpAny_pure q, ?_, ?_, ?_, (by show IsRangeIter _ _ _ _ _; rw [hn]; simpa using Heap.get?_push_size _ rfl), F.push _, (fun p hp => ⟨Heap.get?_push_of_some _ (N p hp).1, (N p hp).2⟩), hj, ?_, ?_⟩
  · intro hm
    exact absurd F.ns.lt ((List.mem_singleton.mp hm) ▸ Nat.lt_irrefl _)
  · intro b hb
    rw [List.mem_singleton.mp hb]
    exact next_is_new F
  · intro p hp hI
    exact absurd (Heap.lt_size (N p hp).1) ((List.mem_singleton.mp hI) ▸ Nat.lt_irrefl _)
  · intro i v m₁ nx h₁ tk₁ own hi hP hJ hoff hfp hget hall hst F₁ N₁
    obtain ⟨⟨t1, rfl⟩, _⟩ := id (And.intro hP trivial)
    obtain ⟨oI, hoI⟩ : ∃ oI, h₁.get? s.heap.objs.size = some oI := ⟨_, hst⟩
    have hI : (s.heap.objs.size, oI) ∈ own := hall _ (.head _) (next_is_new F) _ hoI
    have N₁' : News h₀ env.locals h₁ nx := fun p hp => N₁ p (List.mem_append_right _ hp)
    refine wpAny_mono (turn i t1 m₁ nx h₁ tk₁ s.heap.objs.size oI hi hJ (fun p hp e => hoff p hp (by rw [List.mem_singleton]; exact e)) (fun p hp => Heap.lt_size (N p hp).1) F.ns.lt F₁ (fun p hp => by
      rcases List.mem_cons.mp hp with rfl | hp
      · exact N₁ _ (List.mem_append_left _ hI)
      · exact N₁' p hp)) (fun _ s₃ h₃ => wpAny_mono h₃ (fun f s₄ h₄ => ?_) fun _ _ e => e) fun _ _ e => e
    obtain ⟨hf, h', tk', m', nx', rfl, F', N', off', hJ'⟩ := h₄
    have fin : LoopStepU h₀ env.locals [s.heap.objs.size] own (J (i + 1)) { s with heap := h₁, toks := tk₁ } .next { s with heap := h', toks := tk' } := by
      refine ⟨rfl, h', tk', m', nx', rfl, F', fun p hp => ?_, fun p hp e => off' p hp (List.mem_singleton.mp e), hJ'⟩
      have N'' : News h₀ env.locals h' nx' := fun q hq => N' q (.tail _ hq)
      rcases List.mem_append.mp hp with hp | hp
      · have h1 := hget p hp
        have e := List.mem_singleton.mp (hfp p hp)
        rw [e, hoI] at h1
        have h2 : p.2 = oI := (Option.some.inj h1).symm
        have h3 := N' _ (.head _)
        refine ⟨?_, ?_⟩
        · rw [e, h2]; exact h3.1
        · rw [e]; exact h3.2
      · exact N'' p hp
    rcases hf with rfl | rfl
    · exact .next fin
    · exact .cont fin
  · intro h' tk m' nx' F' N' _ hJ
    exact done m' nx' h' tk hJ F' N'
end

end

-- part C14
section
theorem fresh_C14 : True := by w_top off; trivial
local macro_rules | `(tactic| walk_at "zz9") => `(tactic| fail)
local macro_rules | `(tactic| walk_at "zz9") => `(tactic| fail)
open LCg LCt
def HasO (h₀ : Heap) (nx : List (Addr × Obj)) (b : Addr) (o : Obj) : Prop := h₀.get? b = some o ∨ (b, o) ∈ nx
theorem HasO.get {h₀ h : Heap} {L b : Addr} {m : Str → Option Value} {nx news : List (Addr × Obj)} {o : Obj} (x : HasO h₀ nx b o) (F : Fr h₀ L h m) (N : News h₀ L h news) (hs : ∀ q ∈ nx, q ∈ news) : h.get? b = some o :=
  x.elim (F.keep _ _) fun q => (N _ (hs _ q)).1
theorem HasO.mono {h₀ : Heap} {b : Addr} {nx nx' : List (Addr × Obj)} {o : Obj} (x : HasO h₀ nx b o) (hs : ∀ q ∈ nx, q ∈ nx') : HasO h₀ nx' b o := x.imp id (hs _)
def RowO (h₀ : Heap) (nx : List (Addr × Obj)) (v : Value) (r : Str × Str) : Prop := ∃ a o t u n, v = .ref a ∧ HasO h₀ nx a o ∧ o.cls = .type "tuple" ∧ o.data = .seq #[.str r.1 t, .str r.2 u] n
inductive RowsO (h₀ : Heap) (nx : List (Addr × Obj)) : List Value → List (Str × Str) → Prop
  | nil : RowsO h₀ nx [] []
  | cons {v : Value} {vs : List Value} {r : Str × Str} {rs : List (Str × Str)} : RowO h₀ nx v r → RowsO h₀ nx vs rs → RowsO h₀ nx (v :: vs) (r :: rs)
theorem RowO.mono {h₀ : Heap} {nx nx' : List (Addr × Obj)} {v : Value} {r : Str × Str} (x : RowO h₀ nx v r) (hs : ∀ q ∈ nx, q ∈ nx') : RowO h₀ nx' v r :=
  by obtain ⟨a, o, t, u, n, e, ho, c, d⟩ := x; exact ⟨a, o, t, u, n, e, ho.mono hs, c, d⟩
theorem RowsO.mono {h₀ : Heap} {nx nx' : List (Addr × Obj)} {vs : List Value} {rs : List (Str × Str)} (x : RowsO h₀ nx vs rs) (hs : ∀ q ∈ nx, q ∈ nx') : RowsO h₀ nx' vs rs := by
  induction x with
  | nil => exact .nil
  | cons r _ ih => exact .cons (r.mono hs) ih
theorem RowsO.length {h₀ : Heap} {nx : List (Addr × Obj)} {vs : List Value} {rs : List (Str × Str)} (x : RowsO h₀ nx vs rs) : vs.length = rs.length := by
  induction x with
  | nil => rfl
  | cons _ _ ih => simp [ih]
theorem RowsO.get {h₀ : Heap} {nx : List (Addr × Obj)} {vs : List Value} {rs : List (Str × Str)} (x : RowsO h₀ nx vs rs) : ∀ (i : Nat) (v : Value), vs[i]? = some v → ∃ r, rs[i]? = some r ∧ RowO h₀ nx v r := by
  induction x with
  | nil => intro i v h; simp at h
  | cons r _ ih =>
    intro i v h
    cases i with
    | zero => simp at h; subst h; exact ⟨_, rfl, r⟩
    | succ i => simp at h; simpa using ih i v h
theorem RowsO.snoc {h₀ : Heap} {nx : List (Addr × Obj)} {vs : List Value} {rs : List (Str × Str)} {v : Value} {r : Str × Str} (x : RowsO h₀ nx vs rs) (y : RowO h₀ nx v r) : RowsO h₀ nx (vs ++ [v]) (rs ++ [r]) := by
  induction x with
  | nil => exact .cons y .nil
  | cons r _ ih => exact .cons r ih
theorem name_len : ∀ k < 4, (nameOf k).length ≤ 100 := by decide +kernel
theorem RowsO.at {h₀ h : Heap} {L : Addr} {m : Str → Option Value} {nx news : List (Addr × Obj)} (F : Fr h₀ L h m) (N : News h₀ L h news) (hs : ∀ q ∈ nx, q ∈ news) : ∀ {gs : List Guest} {vs : List Value}, GuestsOk gs → RowsO h₀ nx vs (gs.map rowOf) → RowsAt h vs (gs.map rowOf)
  | [], vs, _, x => by cases x; exact .nil
  | g :: r, vs, hg, x => by
    cases x with
    | cons y z =>
      obtain ⟨a, o, t, u, n, e, ho, c, d⟩ := y
      refine .cons ⟨a, t, u, e, ⟨o, ho.get F N hs, c, n, d⟩, ?_⟩ (RowsO.at F N hs (fun g' h' => hg g' (.tail _ h')) z)
      exact name_len _ (hg g (.head _)).1
theorem RowsO.base {g : Heap} {vs : List Value} {rs : List (Str × Str)} (x : RowsAt g vs rs) : RowsO g [] vs rs := by
  induction x with
  | nil => exact .nil
  | cons y _ ih =>
    obtain ⟨a, t, u, e, ⟨o, ho, c, n, d⟩, _⟩ := y
    exact .cons ⟨a, o, t, u, n, e, .inl ho, c, d⟩ ih

/-- two lists of rows compared -/
noncomputable def rowD (r : Str × Str) : Dat := .tuple [.str r.1, .str r.2]
theorem rowD_inj : ∀ {a b : List (Str × Str)}, a.map rowD = b.map rowD → a = b
  | [], [], _ => rfl
  | [], _ :: _, h => by cases h
  | _ :: _, [], h => by cases h
  | x :: a, y :: b, h => by
    simp only [List.map_cons, List.cons.injEq, rowD, Dat.tuple.injEq, Dat.str.injEq, and_true] at h
    obtain ⟨⟨h1, h2⟩, h3⟩ := h
    rw [rowD_inj h3, show x = y from Prod.ext h1 h2]
theorem rows_reads {h : Heap} {vs : List Value} {rs : List (Str × Str)} (x : RowsAt h vs rs) : ∃ as, ReadsAll h vs (kqdPs (rs.map rowD)) as := by
  induction x with
  | nil => exact ⟨_, ReadsAll.nil⟩
  | cons y _ ih =>
    obtain ⟨a, t, u, rfl, ⟨o, ho, hc, n, hd⟩, _⟩ := y
    obtain ⟨as, q⟩ := ih
    exact ⟨_, ReadsAll.cons (reads_tuple_at ho hc hd (by exact ReadsAll.cons (Reads.str _ _) (ReadsAll.cons (Reads.str _ _) ReadsAll.nil))) q⟩
theorem okL {ds : List Dat} (h : ∀ d ∈ ds, kqdOk 8 d = true) : kqdOk 9 (.list ds) = true := by
  show ds.all (kqdOk 8) = true
  exact List.all_eq_true.mpr h
theorem ne_rowsH {prog : Program} {w : World} {A : Around} {E : Value → Shared → Prop} {s : Shared} {a b : Addr} {oa ob : Obj} {vs ws : List Value} {ka kb : Nat} {r1 r2 : List (Str × Str)} {Q : Value → Shared → Prop}
    (ha : s.heap.get? a = some oa) (ca : oa.cls = .type "list") (da : oa.data = .seq vs.toArray ka) (Ra : RowsAt s.heap vs r1) (hb : s.heap.get? b = some ob) (cb : ob.cls = .type "list") (db : ob.data = .seq ws.toArray kb) (Rb : RowsAt s.heap ws r2)
    (o1 : ∀ d ∈ r1.map rowD, kqdOk 8 d = true) (o2 : ∀ d ∈ r2.map rowD, kqdOk 8 d = true) (hu : A.units + 64 < cLine) (h : Q (.bool (!decide (r1 = r2))) s) : wpAny (model prog w) A (compareOp .NotEq (.ref a) (.ref b)) Q E s := by
  obtain ⟨as, ra⟩ := rows_reads Ra
  obtain ⟨bs, rb⟩ := rows_reads Rb
  have la := kqd_lay 9 (.list (r1.map rowD)) (okL o1)
  have lb := kqd_lay 9 (.list (r2.map rowD)) (okL o2)
  rw [kqdP] at la lb
  have e : PyData.eqv (.list (kqdPs (r1.map rowD))) (.list (kqdPs (r2.map rowD))) = decide (r1 = r2) := by
    have q := kqd_eqv 9 (.list (r1.map rowD)) (.list (r2.map rowD)) 9 (okL o1) (okL o2)
    rw [kqdP, kqdP, Dat.list.injEq] at q
    by_cases hq : r1 = r2
    · rw [decide_eq_true hq]; exact q.mpr (congrArg _ hq)
    · rw [decide_eq_false hq]; exact Bool.eq_false_iff.mpr fun x => hq (rowD_inj (q.mp x))
  refine ne_dataH (reads_list_at ha ca da (by simpa using ra)) (reads_list_at hb cb db (by simpa using rb)) ?_ ?_ hu (by rw [e]; exact h)
  · unfold SeqAt.shaped; rw [la.1, Bool.true_and]; exact decide_eq_true (Nat.le_trans la.2 (by decide))
  · unfold SeqAt.shaped; rw [lb.1, Bool.true_and]; exact decide_eq_true (Nat.le_trans lb.2 (by decide))
theorem rowD_ok : ∀ a < 4, ∀ b < 5, ∀ c < 5, kqdOk 8 (rowD (nameOf a, txt b c)) = true := by decide +kernel
theorem rowsD_ok {gs : List Guest} (hg : GuestsOk gs) : ∀ d ∈ (gs.map rowOf).map rowD, kqdOk 8 d = true := by
  intro d hd
  obtain ⟨r, hr, rfl⟩ := List.mem_map.mp hd
  obtain ⟨g, hg', rfl⟩ := List.mem_map.mp hr
  have := hg g hg'
  exact rowD_ok _ this.1 _ this.2.1 _ this.2.2

end

-- part C15
section
theorem fresh_C15 : True := by w_top off; trivial
open LCg LCt
theorem fresh_cons {g h h' : Heap} {L r : Addr} {m : Str → Option Value} {nx : List (Addr × Obj)} {o : Obj} (F : Fr g L h m) (N : News g L h nx) (k : ∀ b o, h.get? b = some o → h'.get? b = some o) (hr : h'.get? r = some o) (hs : @LE.le Nat _ h.objs.size r) :
    Fr g L h' m ∧ News g L h' ((r, o) :: nx) ∧ (∀ p ∈ nx, @LT.lt Nat _ p.1 r) ∧ @LT.lt Nat _ L r := by
  have hL : @LT.lt Nat _ L r := Nat.lt_of_lt_of_le F.ns.lt hs
  refine ⟨F.keeps k, fun q hq => ?_, fun p hp => Nat.lt_of_lt_of_le (Heap.lt_size (N p hp).1) hs, hL⟩
  rcases List.mem_cons.mp hq with rfl | hq
  · refine ⟨hr, Nat.ne_of_gt hL, ?_⟩
    cases q : g.get? r with
    | none => rfl
    | some o' => exact absurd (Nat.lt_of_lt_of_le (Heap.lt_size (F.keep _ _ q)) hs) (Nat.lt_irrefl _)
  · exact (N.grown k) q hq
theorem reordA {g h : Heap} {L : Addr} {P D B1 C X1 D1 : Addr × Obj} (N : News g L h [P, D, B1, C, X1, D1]) : News g L h (X1 :: D1 :: C :: P :: [D, B1]) := fun q hq => N q (by
  simp only [List.mem_cons, List.not_mem_nil, or_false] at hq ⊢; rcases hq with h | h | h | h | h | h <;> simp [h])
theorem reordB {g h : Heap} {L : Addr} {T R X1 D1 C P : Addr × Obj} {ex : List (Addr × Obj)} (N : News g L h (T :: R :: X1 :: D1 :: C :: P :: ex)) : News g L h (X1 :: D1 :: C :: P :: R :: T :: ex) := fun q hq => N q (by
  simp only [List.mem_cons] at hq ⊢; rcases hq with h | h | h | h | h | h | h <;> simp [h])
theorem pick {g h : Heap} {L T R : Addr} {ot orr : Obj} {rest : List (Addr × Obj)} (_N : News g L h ((T, ot) :: (R, orr) :: rest)) : ∃ T' R', T' = T ∧ R' = R := ⟨T, R, rfl, rfl⟩
theorem reordC {g h : Heap} {L : Addr} {P2 I X1 D1 C P R : Addr × Obj} {ex : List (Addr × Obj)} (N : News g L h (P2 :: I :: X1 :: D1 :: C :: P :: R :: ex)) : News g L h (I :: X1 :: D1 :: C :: P2 :: R :: ex) := fun q hq => N q (by
  simp only [List.mem_cons] at hq ⊢; rcases hq with h | h | h | h | h | h | h <;> simp [h])
theorem reordD {g h : Heap} {L : Addr} {T I X1 D1 C P R : Addr × Obj} {ex : List (Addr × Obj)} (N : News g L h (T :: I :: X1 :: D1 :: C :: P :: R :: ex)) : News g L h (I :: X1 :: D1 :: C :: P :: R :: T :: ex) := fun q hq => N q (by
  simp only [List.mem_cons] at hq ⊢; rcases hq with h | h | h | h | h | h | h | h <;> simp [h])
theorem pick1 {g h : Heap} {L T : Addr} {ot : Obj} {rest : List (Addr × Obj)} (_N : News g L h ((T, ot) :: rest)) : ∃ T', T' = T := ⟨T, rfl⟩
theorem cP_le {gs mv rs : List Guest} {coming : Bool} (I : MvInv gs coming mv rs) (c : Nat) : cP c mv ≤ cP c gs := by
  have := I.split fun g => g.1 / 2 == c
  unfold cP
  omega
theorem after_add {g h h' : Heap} {L lm b : Addr} {m : Str → Option Value} {I X1 D1 P R : Addr × Obj} {ol ol2 ob : Obj} {ex : List (Addr × Obj)} (F : Fr g L h m) (N : News g L h (I :: X1 :: D1 :: (lm, ol) :: P :: R :: ex)) (kb : ∀ b o, b ≠ lm → h.get? b = some o → h'.get? b = some o) (hb : h.get? b = none) (hob : h'.get? b = some ob) (hbl : h'.get? lm = some ol2)
    (n1 : I.1 ≠ lm) (n2 : X1.1 ≠ lm) (n3 : D1.1 ≠ lm) (n4 : P.1 ≠ lm) (n5 : R.1 ≠ lm) (n6 : ∀ q ∈ ex, q.1 ≠ lm) :
    Fr g L h' m ∧ News g L h' (I :: X1 :: D1 :: (lm, ol2) :: P :: R :: (b, ob) :: ex) ∧ (∀ q ∈ (I :: X1 :: D1 :: (lm, ol) :: P :: R :: ex), q.1 ≠ b) := by
  have nl := N (lm, ol) (.tail _ (.tail _ (.tail _ (.head _))))
  have neb : ∀ q ∈ (I :: X1 :: D1 :: (lm, ol) :: P :: R :: ex), q.1 ≠ b := fun q hq e => by
    have := (N q hq).1
    rw [e, hb] at this; cases this
  refine ⟨fr_butL (adr := [lm]) F (fun b o hb e => kb b o (by simpa using hb) e) (fun a ha => by rw [List.mem_singleton.mp ha]; exact ⟨nl.2.2, nl.2.1⟩), fun q hq => ?_, neb⟩
  have old : ∀ q ∈ (I :: X1 :: D1 :: (lm, ol) :: P :: R :: ex), q.1 ≠ lm → h'.get? q.1 = some q.2 ∧ q.1 ≠ L ∧ g.get? q.1 = none := fun q hq z => ⟨kb _ _ z (N q hq).1, (N q hq).2⟩
  rcases List.mem_cons.mp hq with rfl | hq
  · exact old _ (.head _) n1
  rcases List.mem_cons.mp hq with rfl | hq
  · exact old _ (.tail _ (.head _)) n2
  rcases List.mem_cons.mp hq with rfl | hq
  · exact old _ (.tail _ (.tail _ (.head _))) n3
  rcases List.mem_cons.mp hq with rfl | hq
  · exact ⟨hbl, nl.2⟩
  rcases List.mem_cons.mp hq with rfl | hq
  · exact old _ (.tail _ (.tail _ (.tail _ (.tail _ (.head _))))) n4
  rcases List.mem_cons.mp hq with rfl | hq
  · exact old _ (.tail _ (.tail _ (.tail _ (.tail _ (.tail _ (.head _)))))) n5
  rcases List.mem_cons.mp hq with rfl | hq
  · refine ⟨hob, fun e => ?_, ?_⟩
    · obtain ⟨o, _, _, hL, _⟩ := F.ns
      have e' : b = L := e
      rw [← e', hb] at hL; cases hL
    · cases q : g.get? b with
      | none => rfl
      | some o => have := F.keep _ _ q; rw [hb] at this; cases this
  · exact old _ (.tail _ (.tail _ (.tail _ (.tail _ (.tail _ (.tail _ hq)))))) (n6 q hq)
theorem name_hit : ∀ k < 4, noHit ((codeName.map PySem.Builtin.Re.reRawOf).map (·.toNat)) (nameOf k).cps = true := by decide +kernel
theorem txt_hit : ∀ a < 5, ∀ b < 5, noHit ((codeValue.map PySem.Builtin.Re.reRawOf).map (·.toNat)) (txt a b).cps = true := by decide +kernel
theorem txt_len (a b : Nat) : (txt a b).length ≤ 100 := by show 2 ≤ 100; decide
theorem ok_snoc {l : List Guest} {g : Guest} (h : GuestsOk l) (hg : g.1 < 4 ∧ g.2.1 < 5 ∧ g.2.2 < 5) : GuestsOk (l ++ [g]) := fun x hx => by
  rcases List.mem_append.mp hx with hx | hx
  · exact h x hx
  · rw [List.mem_singleton.mp hx]; exact hg
noncomputable def MW (x rl bl pr wl : Addr) (coming : Bool) (u : Str → Option Value) : Str → Option Value := fun z =>
  if z = Str.ofString "moved" then some (.ref x) else if z = Str.ofString "rest" then some (.ref rl) else if z = Str.ofString "before" then some (.ref bl) else if z = Str.ofString "pair" then some (.ref pr) else
  if z = Str.ofString "whole" then some (.ref wl) else if z = Str.ofString "coming" then some (.bool coming) else u z
theorem mw_eq {x rl bl pr wl : Addr} {coming : Bool} {m : Str → Option Value} (h1 : m (Str.ofString "moved") = some (.ref x)) (h2 : m (Str.ofString "rest") = some (.ref rl)) (h3 : m (Str.ofString "before") = some (.ref bl)) (h4 : m (Str.ofString "pair") = some (.ref pr))
    (h5 : m (Str.ofString "whole") = some (.ref wl)) (h6 : m (Str.ofString "coming") = some (.bool coming)) : m = MW x rl bl pr wl coming m := by
  funext z
  unfold MW
  by_cases a1 : z = Str.ofString "moved"
  · rw [if_pos a1, a1]; exact h1
  rw [if_neg a1]
  by_cases a2 : z = Str.ofString "rest"
  · rw [if_pos a2, a2]; exact h2
  rw [if_neg a2]
  by_cases a3 : z = Str.ofString "before"
  · rw [if_pos a3, a3]; exact h3
  rw [if_neg a3]
  by_cases a4 : z = Str.ofString "pair"
  · rw [if_pos a4, a4]; exact h4
  rw [if_neg a4]
  by_cases a5 : z = Str.ofString "whole"
  · rw [if_pos a5, a5]; exact h5
  rw [if_neg a5]
  by_cases a6 : z = Str.ofString "coming"
  · rw [if_pos a6, a6]; exact h6
  rw [if_neg a6]
abbrev hdDict (P : Params) (t : Nat) (lm : Addr) : Obj := dictOf [⟨PyData.keyHash P (Str.ofString "_headers"), .str (Str.ofString "_headers") t, .ref lm⟩] 1
/-- between the rounds -/
inductive JW (P : Params) (g : Heap) (gs : List Guest) (wl : Addr) (coming : Bool) (x dx lm : Addr) (tk : Nat) (n : Nat) (m : Str → Option Value) (nx : List (Addr × Obj)) : Prop
  | mk (mv rs bf : List Guest) (vm vr vb : List Value) (nm nr nb : Nat) (pr rl bl : Addr) (po ro bo : Obj) (ex : List (Addr × Obj)) (u : Str → Option Value) (e1 : m = MW x rl bl pr wl coming u) (e2 : nx = (x, instObj 200 dx) :: (dx, hdDict P tk lm) :: (lm, listOf vm.toArray nm) :: (pr, po) :: ex) (e3 : IsPair po (pairMv (wholeOf gs) coming mv)) (e4 : RowsO g ex vm (mv.map rowOf)) (e5 : HasO g ex rl ro) (e6 : ro.cls = .type "list") (e7 : ro.data = .seq vr.toArray nr) (e8 : RowsO g ex vr (rs.map rowOf)) (e9 : HasO g ex bl bo) (e10 : bo.cls = .type "list") (e11 : bo.data = .seq vb.toArray nb) (e12 : RowsO g ex vb (bf.map rowOf)) (e13 : MvInv gs coming mv rs) (e14 : GuestsOk mv) (e15 : GuestsOk rs) (e16 : GuestsOk bf) (e17 : rs.length + mv.length = gs.length) (e18 : (rs.length = bf.length → rs = bf ∧ ∀ y ∈ rs, wants (wholeOf gs) coming mv y = false)) (e19 : n = 2 * rs.length + (if rs.length = bf.length then 0 else 1)) (e20 : (∀ q ∈ ex, @Ne Nat q.1 lm)) (e21 : @LT.lt Nat _ lm pr) (e22 : (bf = [] ∨ rs.length ≤ bf.length))
/-- within a round -/
inductive JF (P : Params) (g : Heap) (gs : List Guest) (wl : Addr) (coming : Bool) (x dx lm rl bl : Addr) (tk : Nat) (mv0 bf : List Guest) (bo : Obj) (vb : List Value) (nb : Nat) (i : Nat) (m : Str → Option Value) (nx : List (Addr × Obj)) : Prop
  | mk (mv nr : List Guest) (vm vr : List Value) (nm nn : Nat) (pr : Addr) (po : Obj) (ex : List (Addr × Obj)) (u : Str → Option Value) (e1 : m = MW x rl bl pr wl coming u) (e2 : nx = (x, instObj 200 dx) :: (dx, hdDict P tk lm) :: (lm, listOf vm.toArray nm) :: (pr, po) :: (rl, listOf vr.toArray nn) :: ex) (e3 : IsPair po (pairMv (wholeOf gs) coming mv)) (e4 : RowsO g ex vm (mv.map rowOf)) (e5 : RowsO g ex vr (nr.map rowOf)) (e6 : HasO g ex bl bo) (e7 : RowsO g ex vb (bf.map rowOf)) (e8 : RdInv gs coming mv (bf.take i) nr (bf.drop i)) (e9 : GuestsOk mv) (e10 : GuestsOk nr) (e11 : nr.length + (bf.drop i).length + mv.length = gs.length) (e12 : (∀ q ∈ ex, @Ne Nat q.1 lm ∧ @Ne Nat q.1 rl)) (e13 : @LT.lt Nat _ lm pr) (e14 : @Ne Nat pr rl)
section
variable {w : World} {p : Program} {loose : List Str} {mean : ExcName → Option Value} {mg mb : Str → Option Value}
    {dp un : Nat} {gd : Option (List Code)} {cn : Str} {cs : Scope} {a : Addr} {ccd : Value} {cl : List (Str × Addr)} {outer : List Env} {A₀ : Around} {base h₀ : Heap} {L : Addr} {m : Str → Option Value} {s : Shared}
    {Q E : Value → Shared → Prop}
local macro_rules | `(tactic| walk_at "call ref") => `(tactic| (refine Mine.hold ?_))
local macro_rules | `(tactic| walk_at "call ref") => `(tactic| (k_here; (with_reducible apply Mine.at216); k_dflt (apply Mine.fitsK; k_asm; k_asm; k_asm; k_asm; k_asm; rfl; ktr_room; ktr_units; assumption; assumption; (apply Mine.listK; k_asm; k_mem; assumption; assumption); omega; omega; k_whole); intro _ _ _ _; (try dsimp only); (try k_sweep)))
local macro_rules | `(tactic| walk_at "call builtin:list.append") => `(tactic| (refine Mine.hold ?_))
local macro_rules | `(tactic| walk_at "exec While") => `(tactic| (refine Mine.hold ?_))
local macro_rules | `(tactic| walk_at "compareOp NotEq ref ref") => `(tactic| (refine Mine.hold ?_))
local macro_rules | `(tactic| walk_at "exec For") => `(tactic| (refine Mine.hold ?_))
local macro_rules | `(tactic| walk_at "exec For Tuple Name cons nil") => `(tactic| (refine Mine.hold ?_))
local macro_rules | `(tactic| walk_at "pyIter ref") => `(tactic| (refine Mine.hold ?_))
set_option maxHeartbeats 8000000 in
theorem moved_spec (B : Below A₀ base outer h₀) (F : Fr h₀ L s.heap m) (X : (hd.heap_39 w.params).In h₀) (T : Top p loose mean mg mb h₀) (hk : cs.kind = .function)
    (hdp : dp < 700) (hun : un < 5000) {gl wl : Addr} {gs gs0 : List Guest} {vg : List Value} {ng : Nat} {t1 t2 : Tok} {coming : Bool} (hg : GuestsOk gs0) (hgg : ∀ pr : Guest → Bool, gs0.countP pr = gs.countP pr) (hgl : s.heap.get? gl = some (listOf vg.toArray ng)) (hgr : RowsAt s.heap vg (gs0.map rowOf)) (hgn : gs0 ≠ []) (hg1 : gs0.length ≤ 100)
    (hgl2 : gs0.length = gs.length) (hw : s.heap.IsList wl #[.int (wholeOf gs).1 t1, .int (wholeOf gs).2 t2]) (hn0 : (wholeOf gs).1 ≤ 9) (hn1 : (wholeOf gs).2 ≤ 9)
    (h : ∀ r h' tk' o q, (∀ b o, s.heap.get? b = some o → h'.get? b = some o) → s.heap.get? r = none → h'.get? r = some o → IsPair o q → IsRest gs q → (∀ r, IsRest gs r → if coming = true then leP q r else leP r q) → Q (.ref r) { s with heap := h', toks := tk' }) :
    wpAny (model PySem.Challenge.rw_ph0161_01.row.prog w) (ktrTop dp un gd cn cs L a ccd cl outer) (call (.ref 235) [.ref gl, .ref wl, .bool coming] []) Q E s := by
  have N : News h₀ L s.heap [] := News.nil
  revert X; k_fill; intro X
  refine wpAny_call ?_
  k_dflt ktr_enter
  intro g' L' h' G' F' N' B' X' T'
  obtain hw' : g'.IsList wl #[.int (wholeOf gs).1 t1, .int (wholeOf gs).2 t2] := hw.at fun o e => G'.nil _ o e
  obtain hgl' := G'.nil _ _ hgl
  obtain hgr' := hgr.keeps G'.nil
  clear hw hgl hgr
  (try dsimp only); (try k_fold)
  k_steps
  refine unhold ?_
  refine headers_spec B' F' X' T' rfl (by show dp + 1 < 800; omega) (by show un + 3 < 6000; omega) N' ?_
  intro x dx lm h1 tk1 tkey F1 N1 l1 l2 l3
  clear F' N'
  (try dsimp only)
  k_steps
  refine unhold ?_
  rename (Fr _ _ _ _) => F2
  rename (News _ _ _ _) => N2
  refine counts_spec (mv := []) (n0 := (wholeOf gs).1) (n1 := (wholeOf gs).2) (l := lm) B' F2 X' T' rfl (by show dp + 1 < 900; omega) (by show un + 3 < 9000; omega) (fun _ h => nomatch h)
    ⟨dx, tkey, [], 0, News.get N2 (by k_mem), News.get N2 (by k_mem), News.get N2 (by k_mem), .nil, Nat.zero_le _⟩ (hw'.at fun o e => F2.keep _ o e) (Nat.zero_le _) (Nat.zero_le _) (by omega) (by omega) ?_
  intro pr h3 tk3 po k3 hs3 hpo ppo
  obtain ⟨F3, N3, l4, l5⟩ := fresh_cons F2 N2 k3 hpo hs3
  clear F2 N2 k3 hpo hs3
  (try dsimp only)
  k_steps
  refine unhold ?_
  rename (Fr _ _ _ _) => F4
  rename (News _ _ _ _) => N4
  have l6 : @LT.lt Nat _ lm pr := l4 (lm, listOf #[] 0) (by k_mem)
  refine While_inv2 (JW w.params g' gs wl coming x dx lm tkey) F4 (reordA N4) (n₀ := 2 * gs0.length + 1) ⟨[], gs0, [], [], vg, [], 0, ng, 0, pr, gl, _, po, _, _, _, _, mw_eq rfl rfl rfl rfl rfl rfl, rfl, ppo, .nil, .inl hgl', rfl, rfl, (RowsO.base hgr').mono (fun _ h => nomatch h), .inr (.tail _ (.head _)), rfl, rfl, .nil,
    MvInv.start gs gs0 coming hgg, (fun _ h => nomatch h), hg, (fun _ h => nomatch h), hgl2, fun e => absurd (List.length_eq_zero_iff.mp e) hgn, ?_, ?_, l6, .inl rfl⟩ ?_ ?_
  · show 2 * gs0.length + 1 = 2 * gs0.length + (if gs0.length = 0 then 0 else 1)
    rw [if_neg (fun e => hgn (List.length_eq_zero_iff.mp e))]
  · intro q hq
    simp only [List.mem_cons, List.not_mem_nil, or_false] at hq
    rcases hq with rfl | rfl
    · exact Nat.ne_of_gt (by dsimp only; omega)
    · exact Nat.ne_of_gt (by dsimp only; omega)
  · clear F4 N4 l4 l5 l6
    rintro n m1 nx h5 tk5 F5 N5 ⟨mv, rs, bf, vm, vr, vb, nm, nr, nb, pr, rl, bl, po, ro, bo, ex, u, rfl, rfl, ppo, rvm, orl, crl, drl, rvr, obl, cbl, dbl, rvb, inv, gmv, grs, gbf, hlen, hst, hn, off, lpr, hbf⟩
    (try dsimp only); (try k_fold)
    k_steps
    refine unhold ?_
    have hs5 : ∀ q ∈ ex, q ∈ ((x, instObj 200 dx) :: (dx, hdDict w.params tkey lm) :: (lm, listOf vm.toArray nm) :: (pr, po) :: ex) := fun q hq => .tail _ (.tail _ (.tail _ (.tail _ hq)))
    refine ne_rowsH (orl.get F5 N5 hs5) crl drl (RowsO.at F5 N5 hs5 grs rvr) (obl.get F5 N5 hs5) cbl dbl (RowsO.at F5 N5 hs5 gbf rvb) (rowsD_ok grs) (rowsD_ok gbf) (by show un + 3 + 64 < 9900; omega) ?_
    by_cases hr : rs.map rowOf = bf.map rowOf
    · have e1 : rs.length = bf.length := by have := congrArg List.length hr; simpa using this
      obtain ⟨e2, e3⟩ := hst e1
      rw [decide_eq_true hr]
      clear hs5
      (try dsimp only)
      k_steps
      (try dsimp only); (try k_unfold); (try dsimp only)
      have npr := N5 (pr, po) (.tail _ (.tail _ (.tail _ (.head _))))
      exact h pr h5 _ po _ (fun b o e => F5.keep b o (G'.nil b o e)) (G'.fresh npr.2.2) npr.1 ppo (inv.done e3) inv.best
    · have e1 : rs.length ≠ bf.length := fun e => hr (congrArg _ (hst e).1)
      rw [decide_eq_false hr]
      clear hs5
      (try dsimp only)
      k_steps
      refine unhold ?_
      rename (Fr _ _ _ _) => F6
      rename (News _ _ _ _) => N6
      obtain ⟨T2, rl2, eT, eR⟩ := pick N6
      subst eT
      subst eR
      have l7 : @LT.lt Nat _ x rl2 ∧ @LT.lt Nat _ dx rl2 ∧ @LT.lt Nat _ lm rl2 ∧ @LT.lt Nat _ pr rl2 ∧ AllLt rl2 ex := by assumption
      have l8 : @LT.lt Nat _ rl2 T2 ∧ @LT.lt Nat _ x T2 ∧ @LT.lt Nat _ dx T2 ∧ @LT.lt Nat _ lm T2 ∧ @LT.lt Nat _ pr T2 ∧ AllLt T2 ex := by assumption
      have lmrl0 := l7.2.2.1
      refine For_turns F6 ?_ (by intro _; rfl) ?_
      · k_steps
        refine unhold ?_
        refine iter_M (lo := ro) (vs := vr) rfl crl drl F6 (reordB N6) (JF w.params g' gs wl coming x dx lm rl2 rl tkey mv rs ro vr nr) ?_
          ⟨mv, [], vm, [], nm, 0, pr, po, _, _, mw_eq rfl rfl rfl rfl rfl rfl, rfl, ppo, rvm.mono fun _ q => .tail _ q, .nil, orl.mono fun _ q => .tail _ q, rvr.mono fun _ q => .tail _ q, RdInv.start inv, gmv, (fun _ h => nomatch h), by show 0 + rs.length + mv.length = gs.length; omega, ?_, lpr, Nat.ne_of_lt l7.2.2.2.1⟩ ?_ ?_
        · rintro i m nx ⟨mv, nr', vm, vr', nm, nn, pr, po, ex, u, rfl, rfl, -, -, -, ob, -⟩
          exact ob.imp id fun q => .tail _ (.tail _ (.tail _ (.tail _ (.tail _ q))))
        · intro q hq
          rcases List.mem_cons.mp hq with rfl | hq
          · exact ⟨Nat.ne_of_gt (by show @LT.lt Nat _ _ _; omega), Nat.ne_of_gt l8.1⟩
          · exact ⟨off q hq, Nat.ne_of_lt (tb_ltOf l7.2.2.2.2 q hq)⟩
        · have lmrl := l7.2.2.1
          clear N6 F6 l7 l8
          rintro i v m1 nx h7 tk7 I oI hvi ⟨mv', nr', vm', vr', nm', nn', pr', po', ex', u', rfl, rfl, ppo', rvm', rvr', obl', rvb', rd, gmv', gnr', hlen', off', lpr', npr'⟩ offI ltI LI F7 N7
          obtain ⟨r, hri, ta, to, t3, t4, tn, rfl, hto, ctd, dtd⟩ := rvb'.get i v hvi
          rw [List.getElem?_map] at hri
          obtain ⟨g9, hgi, rfl⟩ := Option.map_eq_some_iff.mp hri
          obtain ⟨gn, gi, gj⟩ := g9
          obtain ⟨hgn4, hgi5, hgj5⟩ := grs _ (List.mem_of_getElem? hgi)
          dsimp only at hgn4 hgi5 hgj5
          dsimp only [rowOf] at dtd
          have hdrop : rs.drop i = (gn, gi, gj) :: rs.drop (i + 1) := by
            have hlt := (List.getElem?_eq_some_iff.mp hgi).1
            rw [List.drop_eq_getElem_cons hlt, (List.getElem?_eq_some_iff.mp hgi).2]
          have htake : rs.take (i + 1) = rs.take i ++ [(gn, gi, gj)] := by rw [List.take_add_one, hgi]; rfl
          rw [hdrop] at rd hlen'
          have hple := pairMv_le rd.inv
          obtain ⟨hp1, hp2⟩ := hple
          refine unpackN_ F7 N7 ⟨to, hto.get F7 N7 (fun q hq => .tail _ (.tail _ (.tail _ (.tail _ (.tail _ (.tail _ hq)))))), ctd, tn, dtd⟩ rfl rfl rfl ?_
          intro h8 F8 N8
          clear F7 N7
          obtain ⟨pc, pt1, pt2, pn, pd⟩ := ppo'
          generalize hpp : pairMv (wholeOf gs) coming mv' = pp at *
          obtain ⟨p1, p2⟩ := pp
          dsimp only at hp1 hp2 pd
          (try dsimp only); (try k_fold)
          k_steps
          · refine unhold ?_
            rename (Fr _ _ _ _) => F9
            rename (News _ _ _ _) => N9
            have hyes : wants (wholeOf gs) coming mv' (gn, gi, gj) = true := by unfold wants; rw [hpp]; assumption
            have m1 : (I, oI) ∈ ((I, oI) :: (x, instObj 200 dx) :: (dx, hdDict w.params tkey lm) :: (lm, listOf vm'.toArray nm') :: (pr', po') :: (rl2, listOf vr'.toArray nn') :: ex') := .head _
            have rd2 := rd.move hyes
            have hl2 := rvm'.length
            rw [List.length_map] at hl2
            rw [List.length_cons] at hlen'
            have nI := offI (lm, listOf vm'.toArray nm') (.tail _ (.tail _ (.head _)))
            have lrl : @LT.lt Nat _ lm rl2 := lmrl
            refine add_header_spec (l := lm) (dx := dx) (vs := vm') (n := nm') (tk0 := tkey) B' F9 X' T' rfl (by show dp + 1 < 940; omega) (N9 _ (.tail _ (.head _))).1 (N9 _ (.tail _ (.tail _ (.head _)))).1
              (fun q hq => by rw [List.mem_singleton.mp hq]; exact N9 _ (.tail _ (.tail _ (.tail _ (.head _))))) (Nat.ne_of_lt l3) (Nat.ne_of_lt (Nat.lt_trans l2 l3)) (by omega) (name_len _ hgn4) (txt_len _ _) (name_hit _ hgn4) (txt_hit _ hgi5 _ hgj5) ?_
            intro h10 tk10 b tb ub n10 kb hb hbt hbl
            obtain ⟨ob, hob, cob, nob, dob⟩ := hbt
            obtain ⟨F10, N10, neb⟩ := after_add F9 N9 kb hb hob hbl (fun e => nI e.symm) (Nat.ne_of_lt l3) (Nat.ne_of_lt (Nat.lt_trans l2 l3)) (Nat.ne_of_gt lpr') (Nat.ne_of_gt lrl) (fun q hq => (off' q hq).1)
            clear F9 N9 kb hb hob hbl
            have rvm2 : RowsO g' ((b, ob) :: ex') (vm' ++ [.ref b]) ((mv' ++ [(gn, gi, gj)]).map rowOf) := by
              rw [List.map_append]
              exact (rvm'.mono fun _ q => .tail _ q).snoc ⟨b, ob, tb, ub, nob, rfl, .inr (.head _), cob, dob⟩
            have gmv2 := ok_snoc gmv' (g := (gn, gi, gj)) ⟨hgn4, hgi5, hgj5⟩
            (try dsimp only)
            k_steps
            refine unhold ?_
            rename (Fr _ _ _ _) => F11
            rename (News _ _ _ _) => N11
            refine counts_spec (mv := mv' ++ [(gn, gi, gj)]) (n0 := (wholeOf gs).1) (n1 := (wholeOf gs).2) (l := lm) B' F11 X' T' rfl (by show dp + 1 < 900; omega) (by show un + 3 < 9000; omega) gmv2
              ⟨dx, tkey, vm' ++ [.ref b], n10, (N11 _ (.tail _ (.head _))).1, (N11 _ (.tail _ (.tail _ (.head _)))).1, (N11 _ (.tail _ (.tail _ (.tail _ (.head _))))).1, RowsO.at F11 N11 (fun q hq => .tail _ (.tail _ (.tail _ (.tail _ (.tail _ (.tail _ hq)))))) gmv2 rvm2, by rw [List.length_map, List.length_append, List.length_singleton]; omega⟩
              (hw'.at fun o e => F11.keep _ o e) (cP_le rd2.inv 0) (cP_le rd2.inv 1) (by omega) (by omega) ?_
            intro pr2 h12 tk12 po2 k12 hs12 hpo2 ppo2
            obtain ⟨F12, N12, l12, l13⟩ := fresh_cons F11 N11 k12 hpo2 hs12
            clear F11 N11 k12 hpo2 hs12
            (try dsimp only)
            k_steps
            rename (Fr _ _ _ _) => F13
            rename (News _ _ _ _) => N13
            have p1 : @LT.lt Nat _ I pr2 := l12 (I, oI) (.head _)
            have p2 : @LT.lt Nat _ lm pr2 := l12 (lm, listOf (vm' ++ [Value.ref b]).toArray n10) (.tail _ (.tail _ (.tail _ (.head _))))
            have p3 : @LT.lt Nat _ rl2 pr2 := l12 (rl2, listOf vr'.toArray nn') (.tail _ (.tail _ (.tail _ (.tail _ (.tail _ (.head _))))))
            have nb1 := neb (I, oI) (.head _)
            have nb2 := neb (lm, listOf vm'.toArray nm') (.tail _ (.tail _ (.tail _ (.head _))))
            have nb3 := neb (rl2, listOf vr'.toArray nn') (.tail _ (.tail _ (.tail _ (.tail _ (.tail _ (.head _))))))
            refine ⟨.inl rfl, _, _, _, _, rfl, F13, reordC N13, fun q hq => ?_, ⟨mv' ++ [(gn, gi, gj)], nr', vm' ++ [.ref b], vr', n10, nn', pr2, po2, (b, ob) :: ex', _, mw_eq rfl rfl rfl rfl rfl rfl, rfl, ppo2, rvm2, rvr'.mono fun _ q => .tail _ q, obl'.mono fun _ q => .tail _ q, rvb'.mono fun _ q => .tail _ q,
              htake ▸ rd2, gmv2, gnr', by rw [List.length_append, List.length_singleton]; omega, fun q hq => ?_, p2, Nat.ne_of_gt p3⟩⟩
            · rcases List.mem_cons.mp hq with rfl | hq
              · exact offI _ (.head _)
              rcases List.mem_cons.mp hq with rfl | hq
              · exact offI _ (.tail _ (.head _))
              rcases List.mem_cons.mp hq with rfl | hq
              · exact offI (lm, listOf vm'.toArray nm') (.tail _ (.tail _ (.head _)))
              rcases List.mem_cons.mp hq with rfl | hq
              · exact Nat.ne_of_gt p1
              rcases List.mem_cons.mp hq with rfl | hq
              · exact offI _ (.tail _ (.tail _ (.tail _ (.tail _ (.head _)))))
              rcases List.mem_cons.mp hq with rfl | hq
              · exact fun e => nb1 e.symm
              · exact offI _ (.tail _ (.tail _ (.tail _ (.tail _ (.tail _ hq)))))
            · rcases List.mem_cons.mp hq with rfl | hq
              · exact ⟨fun e => nb2 e.symm, fun e => nb3 e.symm⟩
              · exact off' q hq
          · refine unhold ?_
            rename (Fr _ _ _ _) => F9
            rename (News _ _ _ _) => N9
            have hno : wants (wholeOf gs) coming mv' (gn, gi, gj) = false := by
              unfold wants; rw [hpp]
              first | assumption | exact eq_false_of_ne_true (by assumption)
            obtain ⟨T9, eT9⟩ := pick1 N9
            subst eT9
            have l9 : @LT.lt Nat _ I T9 ∧ @LT.lt Nat _ x T9 ∧ @LT.lt Nat _ dx T9 ∧ @LT.lt Nat _ lm T9 ∧ @LT.lt Nat _ pr' T9 ∧ @LT.lt Nat _ rl2 T9 ∧ AllLt T9 ex' := by assumption
            obtain ⟨y1, y2, y3, y4, y5, y6, y7⟩ := l9
            have rd2 := rd.stay hno
            have hl2 := rvr'.length
            rw [List.length_map] at hl2
            rw [List.length_cons] at hlen'
            have lrl : @LT.lt Nat _ lm rl2 := lmrl
            have nI := offI (rl2, listOf vr'.toArray nn') (.tail _ (.tail _ (.tail _ (.tail _ (.head _)))))
            refine append_K F9 N9 (Upd.tail (Nat.ne_of_gt y6) (Upd.tail (fun e => nI e.symm) (Upd.tail (Nat.ne_of_lt (Nat.lt_trans l3 lrl)) (Upd.tail (Nat.ne_of_lt (Nat.lt_trans l2 (Nat.lt_trans l3 lrl))) (Upd.tail (Nat.ne_of_lt lrl) (Upd.tail npr' (Upd.head fun q hq => (off' q hq).2))))))) ?_ (by rw [List.size_toArray, sizeLine_eq]; omega)
            intro h10 F10 N10
            rw [List.push_toArray] at N10
            clear F9 N9
            (try dsimp only)
            k_steps
            refine ⟨.inl rfl, _, _, _, _, rfl, F10, reordD N10, fun q hq => ?_, ⟨mv', nr' ++ [(gn, gi, gj)], vm', vr' ++ [.ref T9], nm', nn' + 1, pr', po', _ :: ex', _, mw_eq rfl rfl rfl rfl rfl rfl, rfl, hpp ▸ ⟨pc, _, _, _, pd⟩, rvm'.mono fun _ q => .tail _ q, ?_, obl'.mono fun _ q => .tail _ q, rvb'.mono fun _ q => .tail _ q,
              htake ▸ rd2, gmv', ok_snoc gnr' (g := (gn, gi, gj)) ⟨hgn4, hgi5, hgj5⟩, by rw [List.length_append, List.length_singleton]; omega, fun q hq => ?_, lpr', npr'⟩⟩
            · rcases List.mem_cons.mp hq with rfl | hq
              · exact offI _ (.head _)
              rcases List.mem_cons.mp hq with rfl | hq
              · exact offI _ (.tail _ (.head _))
              rcases List.mem_cons.mp hq with rfl | hq
              · exact offI _ (.tail _ (.tail _ (.head _)))
              rcases List.mem_cons.mp hq with rfl | hq
              · exact offI _ (.tail _ (.tail _ (.tail _ (.head _))))
              rcases List.mem_cons.mp hq with rfl | hq
              · exact offI (rl2, listOf vr'.toArray nn') (.tail _ (.tail _ (.tail _ (.tail _ (.head _)))))
              rcases List.mem_cons.mp hq with rfl | hq
              · exact Nat.ne_of_gt y1
              · exact offI _ (.tail _ (.tail _ (.tail _ (.tail _ (.tail _ hq)))))
            · rw [List.map_append]
              exact (rvr'.mono fun _ q => .tail _ q).snoc ⟨T9, _, _, _, _, rfl, .inr (.head _), rfl, rfl⟩
            · rcases List.mem_cons.mp hq with rfl | hq
              · exact ⟨Nat.ne_of_gt y4, Nat.ne_of_gt y6⟩
              · exact off' q hq
        · rintro m1 nx h7 tk7 ⟨mv', nr', vm', vr', nm', nn', pr', po', ex', u', rfl, rfl, ppo', rvm', rvr', obl', rvb', rd, gmv', gnr', hlen', off', lpr', npr'⟩ F7 N7
          have hvl := rvr.length
          rw [List.length_map] at hvl
          rw [hvl, List.drop_length] at rd hlen'
          rw [List.take_length] at rd
          rw [if_neg e1] at hn
          have hsub := rd.sub.length_le
          have hinv := rd.inv
          rw [List.append_nil] at hinv
          (try dsimp only)
          k_steps
          refine ⟨h7, _, _, _, 2 * nr'.length + (if nr'.length = rs.length then 0 else 1), rfl, F7, N7, ?_, ⟨mv', nr', rs, vm', vr', vr, nm', nn', nr, pr', rl2, rl, po', _, ro, _, u', rfl, rfl, ppo', rvm'.mono fun _ q => .tail _ q, .inr (.head _), rfl, rfl, rvr'.mono fun _ q => .tail _ q, obl'.mono fun _ q => .tail _ q, crl, drl, rvb'.mono fun _ q => .tail _ q,
            hinv, gmv', gnr', grs, by simpa using hlen', fun e => ⟨rd.sub.eq_of_length e, rd.still e⟩, rfl, ?_, lpr', .inr hsub⟩⟩
          · split <;> omega
          · intro q hq
            rcases List.mem_cons.mp hq with rfl | hq
            · exact Nat.ne_of_gt lmrl0
            · exact (off' q hq).1
      · k_steps
  · k_steps
end

end

-- part C16
section
theorem fresh_C16 : True := by w_top off; trivial
open LCg LCt
section
variable {prog : Program} {w : World} {A : Around} {h₀ : Heap} {L : Addr} {m : Str → Option Value} {env : Env} {elt : Expr} {x : Str} {scope : Scope} {cl : List (Str × Addr)} {s : Shared} {Fin : List Value → List (Addr × Obj) → Prop} {base : List (Addr × Obj)} {S : List (Addr × Obj) → Prop} {P : Nat → Value → Prop}
/-- a comprehension whose items may make new objects -/
theorem rest_fold {n : Nat} (R : Nat → Value → List (Addr × Obj) → Prop) (hmono : ∀ i v ex ex', (∀ q ∈ ex, q ∈ ex') → R i v ex → R i v ex')
    (turn : ∀ (i : Nat) v I oI C oC D m₂ ys ex h tk (E' : Value → Shared → Prop), i < n → P i v → NsObj oC m₂ → m₂ x = some v → Fr h₀ L h m → News h₀ L h ((I, oI) :: (C, oC) :: (D, lst ys) :: (ex ++ base)) → Off3 I C D (ex ++ base) → ((@Ne Nat I C) ∧ (@Ne Nat I D) ∧ (@Ne Nat C D)) →
      wpAny (model prog w) A (eval elt (compEnvC scope cl C env)) (CompEnd h₀ L m { s with heap := h, toks := tk } I oI C oC D (lst ys) S (fun y news' => ∃ more, news' = more ++ (ex ++ base) ∧ R i y more)) E' { s with heap := h, toks := tk })
    (fin : ∀ ys ex, ys.length = n → (∀ (c : Nat) (v : Value), ys[c]? = some v → R c v ex) → Fin ys (ex ++ base)) :
    CompRest prog w A h₀ L m env elt x scope cl s S P Fin n 0 [] base := by
  have key : ∀ (j i : Nat) (ys : List Value) (ex : List (Addr × Obj)), i + j = n → ys.length = i → (∀ (c : Nat) (v : Value), ys[c]? = some v → R c v ex) → CompRest prog w A h₀ L m env elt x scope cl s S P Fin j i ys (ex ++ base) := by
    intro j
    induction j with
    | zero => intro i ys ex hi hy hx; exact CompRest.zero (fin ys ex (by omega) hx)
    | succ j ih =>
      intro i ys ex hi hy hx
      refine CompRest.succ ?_
      intro v I oI C oC D m₂ h tk E' hP hC hx' F N off ne
      refine wpAny_mono (turn i v I oI C oC D m₂ ys ex h tk E' (by omega) hP hC hx' F N off ne) (fun y s₂ hq => ?_) fun _ _ e => e
      obtain ⟨h', tk', nw, e, F', N', off', hS, more, rfl, hr⟩ := hq
      refine ⟨h', tk', _, e, F', N', off', hS, ?_⟩
      rw [← List.append_assoc]
      refine ih (i + 1) _ _ (by omega) (by rw [List.length_append, List.length_singleton]; omega) ?_
      intro c v hc
      by_cases hci : c < i
      · rw [List.getElem?_append_left (by omega)] at hc
        exact hmono _ _ _ _ (fun q hq => List.mem_append_right _ hq) (hx c v hc)
      · rw [List.getElem?_append_right (by omega)] at hc
        have : c = i := by
          have := (List.getElem?_eq_some_iff.mp hc).1
          simp at this; omega
        subst this
        rw [hy, Nat.sub_self] at hc
        simp at hc
        subst hc
        exact hmono _ _ _ _ (fun q hq => List.mem_append_left _ hq) hr
  exact key n 0 [] [] (by omega) rfl (fun c v h => by simp at h)
end
section
variable {prog : Program} {w : World} {A : Around} {E : Value → Shared → Prop} {s : Shared} {value slice : PySem.Expr} {t u : Tok} {i : Int} {Q : Value → Shared → Prop} {h₀ : Heap} {L l : Addr} {news : List (Addr × Obj)} {n : Nat}
theorem charAt_abc5 : ∀ x : Nat, x < 5 → Txt.charAt (Str.ofString "abcde") (x : Int) = some (97 + x) := by decide +kernel
theorem item_abc5 (h0 : 0 ≤ i) (h5 : i < 5)
    (hs : subscripted slice false (.str (Str.ofString "abcde") t) (.int i u) = operate [.str (Str.ofString "abcde") t, .int i u] (getItem (.str (Str.ofString "abcde") t) (.int i u)))
    (ht : ∀ r, letTemporaryGo value (.str (Str.ofString "abcde") t) r = pure ()) (h : Q (.str ⟨#[97 + i.toNat]⟩ s.toks) { s with toks := s.toks + 1 }) :
    wpAny (model prog w) A (subscriptTail value slice (.str (Str.ofString "abcde") t) (.int i u)) Q E s :=
  item_c h0 (by omega) (by have := charAt_abc5 i.toNat (by omega); rwa [Int.toNat_of_nonneg h0] at this) h hs ht
theorem item_menu4 {t0 t1 t2 t3 : Tok} (N : News h₀ L s.heap news) (hm : (l, listOf #[.str (Str.ofString "a") t0, .str (Str.ofString "A") t1, .str (Str.ofString "ab") t2, .str (Str.ofString "aB") t3] n) ∈ news) (h0 : 0 ≤ i) (h4 : i < 4)
    (hs : subscripted slice false (.ref l) (.int i u) = operate [.ref l, .int i u] (getItem (.ref l) (.int i u))) (h : ∀ t, Q (.str (nameOf i.toNat) t) s) :
    wpAny (model prog w) A (subscriptTail value slice (.ref l) (.int i u)) Q E s := by
  have hL : s.heap.IsList l #[.str (Str.ofString "a") t0, .str (Str.ofString "A") t1, .str (Str.ofString "ab") t2, .str (Str.ofString "aB") t3] := ⟨_, (N _ hm).1, rfl, _, rfl⟩
  rcases (show i = 0 ∨ i = 1 ∨ i = 2 ∨ i = 3 by omega) with rfl | rfl | rfl | rfl
  · exact tail_any hL.typeIs slot_list_getitem.lookup (wpAny_getItem_list hL (by decide) (by decide) rfl (h t0)) hs
  · exact tail_any hL.typeIs slot_list_getitem.lookup (wpAny_getItem_list hL (by decide) (by decide) rfl (h t1)) hs
  · exact tail_any hL.typeIs slot_list_getitem.lookup (wpAny_getItem_list hL (by decide) (by decide) rfl (h t2)) hs
  · exact tail_any hL.typeIs slot_list_getitem.lookup (wpAny_getItem_list hL (by decide) (by decide) rfl (h t3)) hs
end
noncomputable def guestOf (x : Int) : Guest := ((x.fmod 4).toNat, ((x.fdiv 4).fmod 5).toNat, ((x.fdiv 20).fmod 5).toNat)
/-- the guests of a script -/
noncomputable def gsOf (ns : List Int) : List Guest := (([1, 6, 8, 28, 83] : List Int) ++ List.take 6 ns).map guestOf
theorem guestOf_ok (x : Int) : (guestOf x).1 < 4 ∧ (guestOf x).2.1 < 5 ∧ (guestOf x).2.2 < 5 := by
  have a0 := Int.fmod_nonneg_of_pos x (b := 4) (by decide)
  have a1 := Int.fmod_lt_of_pos x (b := 4) (by decide)
  have b0 := Int.fmod_nonneg_of_pos (x.fdiv 4) (b := 5) (by decide)
  have b1 := Int.fmod_lt_of_pos (x.fdiv 4) (b := 5) (by decide)
  have c0 := Int.fmod_nonneg_of_pos (x.fdiv 20) (b := 5) (by decide)
  have c1 := Int.fmod_lt_of_pos (x.fdiv 20) (b := 5) (by decide)
  unfold guestOf
  refine ⟨?_, ?_, ?_⟩ <;> dsimp only <;> omega
theorem gsOf_ok (ns : List Int) : GuestsOk (gsOf ns) := by
  intro g hg
  obtain ⟨x, _, rfl⟩ := List.mem_map.mp hg
  exact guestOf_ok x
theorem rowsO_of_get {g : Heap} {ex : List (Addr × Obj)} : ∀ {vs : List Value} {rs : List (Str × Str)}, vs.length = rs.length → (∀ (c : Nat) (v : Value), vs[c]? = some v → ∃ r, rs[c]? = some r ∧ RowO g ex v r) → RowsO g ex vs rs
  | [], [], _, _ => .nil
  | [], _ :: _, h, _ => by simp at h
  | _ :: _, [], h, _ => by simp at h
  | v :: vs, r :: rs, h, k => by
    obtain ⟨r', e, q⟩ := k 0 v rfl
    simp at e
    subst e
    exact .cons q (rowsO_of_get (by simpa using h) fun c u hu => k (c + 1) u (by simpa using hu))
theorem pickT {g h : Heap} {L T : Addr} {ot : Obj} {rest : List (Addr × Obj)} (N : News g L h ((T, ot) :: rest)) : ∃ T' o', T' = T ∧ o' = ot ∧ News g L h ((T', o') :: rest) := ⟨T, ot, rfl, rfl, N⟩
section
variable {w : World} {p : Program} {loose : List Str} {mean : ExcName → Option Value} {mg mb : Str → Option Value}
    {dp un : Nat} {gd : Option (List Code)} {cn : Str} {cs : Scope} {a : Addr} {ccd : Value} {cl : List (Str × Addr)} {outer : List Env} {A₀ : Around} {base h₀ : Heap} {L : Addr} {m : Str → Option Value} {s : Shared}
    {Q E : Value → Shared → Prop}
local macro_rules | `(tactic| walk_at "newList") => `(tactic| (k_here; k_dflt (apply Mine.newList_S; k_asm; k_asm; size_fits; k_whole); intro _ _ _ _ l1 _; (try k_lt l1); (try k_sweep)))
local macro_rules | `(tactic| walk_at "CompEnd") => `(tactic| (refine Mine.hold ?_))
local macro_rules | `(tactic| walk_at "subscriptTail") => `(tactic| (k_here; (with_reducible apply Mine.at_ri); k_dflt (apply Mine.item_menu4; k_asm; k_mem; exact Int.fmod_nonneg_of_pos _ (by decide); exact Int.fmod_lt_of_pos _ (by decide); with_unfolding_all rfl); intro _; (try dsimp only)))
local macro_rules | `(tactic| walk_at "subscriptTail") => `(tactic| (k_here; (with_reducible apply Mine.at_si); k_dflt (apply Mine.item_abc5; exact Int.fmod_nonneg_of_pos _ (by decide); exact Int.fmod_lt_of_pos _ (by decide); with_unfolding_all rfl; (intro _; with_unfolding_all rfl)); (try dsimp only)))
local macro_rules | `(tactic| walk_at "CompSrc") => `(tactic| (refine Mine.hold ?_))
local macro_rules | `(tactic| walk_at "eval ListComp") => `(tactic| (k_here; k_dflt (apply Mine.lcU; k_asm; with_unfolding_all rfl; decide; rfl; decide; rfl; (intro _; rfl))))
set_option maxHeartbeats 8000000 in
theorem guests_spec (B : Below A₀ base outer h₀) (F : Fr h₀ L s.heap m) (X : (hd.heap_39 w.params).In h₀) (T : Top p loose mean mg mb h₀) (hk : cs.kind = .function)
    (hdp : dp < 700) (hun : un < 5000) {sl : Addr} {vs : List Value} {ns : List Int} (hsl : s.heap.IsList sl vs.toArray) (hsi : IntsAre vs ns) (hsn : ns.length ≤ 63)
    (h : ∀ r h' tk' vg, (∀ b o, s.heap.get? b = some o → h'.get? b = some o) → s.heap.get? r = none → h'.get? r = some (lst vg) → RowsAt h' vg ((gsOf ns).map rowOf) → (∀ (c : Nat) (a : Addr), vg[c]? = some (.ref a) → @LE.le Nat _ s.heap.objs.size a) → Q (.ref r) { s with heap := h', toks := tk' }) :
    wpAny (model PySem.Challenge.rw_ph0161_01.row.prog w) (ktrTop dp un gd cn cs L a ccd cl outer) (call (.ref 209) [.ref sl] []) Q E s := by
  have N : News h₀ L s.heap [] := News.nil
  revert X; k_fill; intro X
  refine wpAny_call ?_
  k_dflt ktr_enter
  intro g' L' h' G' F' N' B' X' T'
  obtain hsl' : g'.IsList sl vs.toArray := hsl.at fun o e => G'.nil _ o e
  clear hsl
  (try dsimp only); (try k_fold)
  k_steps
  refine unhold ?_
  rename (IntsAre _ ([1, 6, 8, 28, 83] ++ List.take 6 ns)) => hI9
  have hl9 := hI9.length
  rename (@LT.lt Nat _ L' _) => lL
  refine LCg.CompSrc.ledger rfl (by assumption) (by assumption) (.head _) (by rw [List.size_toArray, sizeLine_eq, hl9]; simp; omega) ?_
  intro gg
  refine rest_fold (fun c v ex => (∃ nx, ([1, 6, 8, 28, 83] ++ List.take 6 ns)[c]? = some nx ∧ RowO g' ex v (rowOf (guestOf nx))) ∧ ∀ a, v = .ref a → @LT.lt Nat _ L' a) (fun i v ex ex' hs ⟨⟨nx, e, r⟩, z⟩ => ⟨⟨nx, e, r.mono hs⟩, z⟩) ?_ ?_
  · intro i v I oI C oC D m₂ ys ex h7 tk7 E7 hi7 hP7 hC7 hx7 F7 N7 off7 ne7
    obtain ⟨nx, hnx, t7, rfl⟩ : ∃ nx, ([1, 6, 8, 28, 83] ++ List.take 6 ns)[i]? = some nx ∧ ∃ t, v = .int nx t := by
      have hlt : i < ([1, 6, 8, 28, 83] ++ List.take 6 ns).length := by rw [← hl9]; simpa using hi7
      obtain ⟨t, ht⟩ := hI9.get i _ (List.getElem?_eq_getElem hlt)
      refine ⟨_, List.getElem?_eq_getElem hlt, t, ?_⟩
      have hP' : _ := hP7
      simp only [List.getElem?_toArray] at hP'
      rw [ht] at hP'
      exact (Option.some.inj hP').symm
    (try dsimp only); (try k_fold)
    k_steps
    refine unhold ?_
    rename (Fr _ _ _ _) => F8
    rename (News _ _ _ _) => N8
    obtain ⟨T9, o9, eT, eo, N8'⟩ := pickT N8
    subst eT
    rename (@LT.lt Nat _ _ T9 ∧ _) => l9
    obtain ⟨-, z1, z2, z3, z4⟩ := l9
    refine LCg.CompEnd.intro F8 N8' ((T9, o9) :: _) (fun q hq => ?_) ⟨⟨Nat.ne_of_gt z1, Nat.ne_of_gt z2, Nat.ne_of_gt z3⟩, off7⟩ (.inr ⟨_, .tail _ (List.mem_append_right _ (.head _)), rfl, _, rfl⟩) ⟨[(T9, o9)], rfl, ⟨nx, hnx, T9, o9, _, _, _, rfl, .inr (.head _), by rw [eo], by rw [eo]; rfl⟩, fun a e => by cases e; exact Nat.lt_trans lL (tb_ltOf z4 (_, _) (List.mem_append_right _ (.tail _ (.tail _ (.head _)))))⟩
    rcases List.mem_cons.mp hq with rfl | hq
    · exact .tail _ (.tail _ (.head _))
    rcases List.mem_cons.mp hq with rfl | hq
    · exact .tail _ (.tail _ (.tail _ (.head _)))
    rcases List.mem_cons.mp hq with rfl | hq
    · exact .tail _ (.tail _ (.tail _ (.tail _ (.head _))))
    rcases List.mem_cons.mp hq with rfl | hq
    · exact .head _
    · exact .tail _ (.tail _ (.tail _ (.tail _ (.tail _ hq))))
  · intro ys ex hyl hR
    refine fun D9 h9 tk9 F9 N9 o1 => ?_
    (try dsimp only)
    k_steps
    (try dsimp only); (try k_unfold); (try dsimp only)
    have nD := N9 _ (.head _)
    have hrows : RowsO g' ex ys (((([1, 6, 8, 28, 83] : List Int) ++ List.take 6 ns).map guestOf).map rowOf) := by
      refine rowsO_of_get (by rw [hyl, List.size_toArray, hl9, List.length_map, List.length_map]) fun c v hv => ?_
      obtain ⟨⟨nx, e, r⟩, -⟩ := hR c v hv
      exact ⟨_, by rw [List.getElem?_map, List.getElem?_map, e]; rfl, r⟩
    exact h D9 h9 _ ys (fun b o e => F9.keep b o (G'.nil b o e)) (G'.fresh nD.2.2) nD.1 (RowsO.at F9 N9 (fun q hq => .tail _ (List.mem_append_left _ hq)) (gsOf_ok ns) hrows) (fun c a hc => Nat.le_trans G'.above (Nat.le_of_lt ((hR c _ hc).2 a rfl)))
end

end

-- part Cg
section
theorem fresh_Cg : True := by w_top off; trivial
local macro_rules | `(tactic| walk_at "zz9") => `(tactic| fail)
open LCg
section
variable {prog : Program} {w : World} {A : Around} {E : Value → Shared → Prop} {s : Shared} {h₀ : Heap} {L : Addr} {m : Str → Option Value} {env : Env}
/-- the end of a turn of a comprehension: the iterator as it was, the frame in any make, the list as told -/
inductive EndG (h₀ : Heap) (L : Addr) (m : Str → Option Value) (I : Addr) (oI : Obj) (C D : Addr) (oD : Obj) (J : List (Addr × Obj) → Prop) (s₁ s₂ : Shared) : Prop
  | mk (h' : Heap) (tk : Nat) (oC : Obj) (news' : List (Addr × Obj)) (hs : s₂ = { s₁ with heap := h', toks := tk }) (F : Fr h₀ L h' m) (N : News h₀ L h' ((I, oI) :: (C, oC) :: (D, oD) :: news')) (off : Off3 I C D news') (ns : ∃ m', NsObj oC m') (j : J news')
/-- what stands around the turns -/
structure AtG (h₀ : Heap) (L : Addr) (m : Str → Option Value) (I C D : Addr) (ys : List Value) (news' : List (Addr × Obj)) (h' : Heap) : Prop where
  fr : Fr h₀ L h' m
  ns : ∃ m', h'.Ns C m'
  nw : News h₀ L h' ((D, lst ys) :: news')
  off : Off3 I C D news'
theorem AtG.open_ {I C D : Addr} {ys : List Value} {news' : List (Addr × Obj)} {h' h₂ : Heap} (x : AtG h₀ L m I C D ys news' h') (hIL : L ≠ I) (hI₀ : h₀.get? I = none) (hCI : I ≠ C) (hDI : I ≠ D) (hCL : C ≠ L) (hC₀ : h₀.get? C = none)
    (hk₂ : ∀ b o, b ∉ [I] → h'.get? b = some o → h₂.get? b = some o) {oI : Obj} (heI : h₂.get? I = some oI) :
    ∃ oC m', NsObj oC m' ∧ Fr h₀ L h₂ m ∧ News h₀ L h₂ ((I, oI) :: (C, oC) :: (D, lst ys) :: news') := by
  obtain ⟨F', ⟨m', hn'⟩, N', off'⟩ := x
  have hn₂ : h₂.Ns C m' := hn'.at' fun o e => hk₂ _ o (by simpa using Ne.symm hCI) e
  obtain ⟨oC, heC, hoC⟩ := ns_obj hn₂
  have off3 := off'.mem
  have N₂ : News h₀ L h₂ ((D, lst ys) :: news') := news_but N' hk₂ fun p hp => by
    rcases List.mem_cons.mp hp with rfl | hp
    · exact Ne.symm hDI
    · exact (off3 p hp).1
  refine ⟨oC, m', hoC, fr_but F' hk₂ hIL hI₀, fun p hp => ?_⟩
  rcases List.mem_cons.mp hp with rfl | hp
  · exact ⟨heI, Ne.symm hIL, hI₀⟩
  · rcases List.mem_cons.mp hp with rfl | hp
    · exact ⟨heC, hCL, hC₀⟩
    · exact N₂ p hp
theorem AtG.append {I C D : Addr} {oI : Obj} {ys : List Value} {y : Value} {J : List (Addr × Obj) → Prop} {s₁ s₂ : Shared} {R : Value → Shared → Prop} {E' : Value → Shared → Prop} (x : EndG h₀ L m I oI C D (lst ys) J s₁ s₂) (hDL : D ≠ L) (hD₀ : h₀.get? D = none) (hDC : D ≠ C) (hlen : ys.length ≤ sizeLine)
    (h : ∀ h' tk news', AtG h₀ L m I C D (ys ++ [y]) news' h' → J news' → (∃ h4 o4, h4.get? I = some oI ∧ Fr h₀ L h4 m ∧ News h₀ L h4 news' ∧ Heap.SameBut D h4 h' ∧ o4 = oI) → R .none { s₁ with heap := h', toks := tk }) :
    wpAny (model prog w) A (call (.builtin "list.append") [.ref D, y]) R E' s₂ := by
  obtain ⟨h₄, tk₄, oC, news₄, rfl, F₄, N₄, off₄, ⟨m', hoC⟩, hJ⟩ := x
  have zI := (N₄ (I, oI) List.mem_cons_self).1
  have zC := (N₄ (C, oC) (List.mem_cons_of_mem _ List.mem_cons_self)).1
  have zD := (N₄ (D, lst ys) (List.mem_cons_of_mem _ (List.mem_cons_of_mem _ List.mem_cons_self))).1
  have N₄' : News h₀ L h₄ news₄ := fun p hp => N₄ p (List.mem_cons_of_mem _ (List.mem_cons_of_mem _ (List.mem_cons_of_mem _ hp)))
  have off4 := off₄.mem
  refine append_at (hsz := by show ys.toArray.size ≤ sizeLine; rw [List.size_toArray]; exact hlen) zD fun h₅ hs₅ hD₅ => ?_
  refine h h₅ tk₄ news₄ ⟨F₄.change hs₅ hDL hD₀, ⟨m', (hoC.ns zC).sameBut hs₅ (Ne.symm hDC)⟩, fun p hp => ?_, off₄⟩ hJ ⟨h₄, oI, zI, F₄, N₄', hs₅, rfl⟩
  rcases List.mem_cons.mp hp with rfl | hp
  · exact ⟨hD₅.trans (congrArg some (lst_snoc ys y)), hDL, hD₀⟩
  · exact ⟨hs₅.extBut _ _ (off4 p hp).2.2 (N₄' p hp).1, (N₄' p hp).2⟩
theorem AtG.none_ {I C D : Addr} {oI : Obj} {ys : List Value} {J : List (Addr × Obj) → Prop} {s₁ s₂ : Shared} (x : EndG h₀ L m I oI C D (lst ys) J s₁ s₂) :
    ∃ h' tk news', s₂ = { s₁ with heap := h', toks := tk } ∧ AtG h₀ L m I C D ys news' h' ∧ J news' ∧ h'.get? I = some oI ∧ News h₀ L h' news' := by
  obtain ⟨h₄, tk₄, oC, news₄, rfl, F₄, N₄, off₄, ⟨m', hoC⟩, hJ⟩ := x
  have zC := (N₄ (C, oC) (List.mem_cons_of_mem _ List.mem_cons_self)).1
  exact ⟨h₄, tk₄, news₄, rfl, ⟨F₄, ⟨m', hoC.ns zC⟩, fun p hp => N₄ p (.tail _ (.tail _ hp)), off₄⟩, hJ, (N₄ (I, oI) List.mem_cons_self).1, fun p hp => N₄ p (.tail _ (.tail _ (.tail _ hp)))⟩

/-- the loop, one test, any target -/
theorem loop_T {elt target iter ct : Expr} {scope : Scope} {cenv : Env} {pos : Pos} {s₂ : Shared} {I C D : Addr} {fp : List Addr} {n : Nat} {P : Nat → Value → Prop} {St : Nat → Heap → Prop} {R : Result → Shared → Prop} {S : List (Addr × Obj) → Prop} (J : Nat → List Value → List (Addr × Obj) → Prop) {news0 : List (Addr × Obj)}
    (W : Walks prog w A I fp [I] n P St) (hsz : n ≤ sizeLine) (hIo : ∀ i h, St i h → ∃ o, h.get? I = some o)
    (hSt : ∀ i h h' o nw, St i h → h.get? I = some o → h'.get? I = some o → (∀ b o, h₀.get? b = some o → h'.get? b = some o) → News h₀ L h' nw → S nw → St i h')
    (hgo : ∀ i v (s : Shared) (Q : Unit → Shared → Prop) (E : Value → Shared → Prop), St i s.heap → Q () s → wpAny (model prog w) A (letOwnedTupleGo target (.ref I) v) Q E s)
    (hIL : L ≠ I) (hI₀ : h₀.get? I = none) (hCI : I ≠ C) (hDI : I ≠ D) (hDC : D ≠ C) (hCL : C ≠ L) (hC₀ : h₀.get? C = none) (hDL : D ≠ L) (hD₀ : h₀.get? D = none) (hDf : D ∉ fp)
    (hst : St 0 s₂.heap) (h0 : AtG h₀ L m I C D [] news0 s₂.heap) (hJ0 : J 0 [] news0) (hS : ∀ i ys nw, J i ys nw → S nw) (hlen : ∀ i ys nw, J i ys nw → ys.length ≤ i)
    (turn : ∀ i v oI oC m₂ ys news h tk (E' : Value → Shared → Prop), i < n → P i v → J i ys news → NsObj oC m₂ → Fr h₀ L h m → News h₀ L h ((I, oI) :: (C, oC) :: (D, lst ys) :: news) → Off3 I C D news →
      wpAny (model prog w) A (assign target cenv v) (fun _ s₃ => wpAny (model prog w) A (isTrue ct cenv (eval ct cenv)) (fun ok s₄ => if ok = true then wpAny (model prog w) A (eval elt cenv) (fun y s₅ => EndG h₀ L m I oI C D (lst ys) (J (i + 1) (ys ++ [y])) { s₂ with heap := h, toks := tk } s₅) E' s₄
        else EndG h₀ L m I oI C D (lst ys) (J (i + 1) ys) { s₂ with heap := h, toks := tk } s₄) E' s₃) E' { s₂ with heap := h, toks := tk })
    (fin : ∀ h tk ys news', Fr h₀ L h m → News h₀ L h ((D, lst ys) :: news') → Off3 I C D news' → (∃ m', h.Ns C m') → J n ys news' → R (.ok .next) { s₂ with heap := h, toks := tk }) :
    codeAny (model prog w) A (.compLoop (.ListComp elt [⟨target, iter, [ct], 0⟩] scope pos) 0 (.ref I) (.ref D) cenv) R s₂ := by
  refine kct_loop (fun k s' => ∃ h' tk i ys news', s' = { s₂ with heap := h', toks := tk } ∧ i ≤ n ∧ k = n + 1 - i ∧ St i h' ∧ AtG h₀ L m I C D ys news' h' ∧ J i ys news') ?_ (n + 1)
    ⟨s₂.heap, s₂.toks, 0, [], news0, rfl, Nat.zero_le _, rfl, hst, h0, hJ0⟩
  rintro k s' ⟨h', tk, i, ys, news', rfl, hi, rfl, hst', at', hJ⟩
  by_cases hlt : i < n
  · refine W.item i _ _ _ hlt hst' fun v h₂ tk₂ hPv hst₂ hk₂ => ?_
    refine hgo (i + 1) v _ _ _ hst₂ ?_
    obtain ⟨oI, heI⟩ := hIo _ _ hst₂
    obtain ⟨oC, m₂, hoC, F₂, N₂⟩ := at'.open_ hIL hI₀ hCI hDI hCL hC₀ hk₂ heI
    have hl := hlen _ _ _ hJ
    refine wpAny_mono (turn i v oI oC m₂ ys news' h₂ tk₂ _ hlt hPv hJ hoC F₂ N₂ at'.off) (fun _ s₃ h₃ => wpAny_mono h₃ (fun ok s₄ h₄ => ?_) fun _ _ e => e) fun _ _ e => e
    cases ok with
    | true =>
      simp only [if_true] at h₄ ⊢
      refine wpAny_mono h₄ (fun y s₅ h₅ => ?_) fun _ _ e => e
      refine AtG.append h₅ hDL hD₀ hDC (by omega) fun h₆ tk₆ news₆ at₆ hJ₆ hq6 => ?_
      obtain ⟨h4, o4, q1, q2, q3, q4, _⟩ := hq6
      exact ⟨n + 1 - (i + 1), by omega, h₆, tk₆, i + 1, _, news₆, rfl, hlt, rfl, W.frame _ _ _ (hSt _ _ _ _ _ hst₂ heI q1 q2.keep q3 (hS _ _ _ hJ₆)) fun b hb o e => q4.extBut b o (fun q => hDf (q ▸ hb)) e, at₆, hJ₆⟩
    | false =>
      simp only [Bool.false_eq_true, if_false] at h₄ ⊢
      obtain ⟨h₆, tk₆, news₆, rfl, at₆, hJ₆, q1, q3⟩ := AtG.none_ h₄
      exact ⟨n + 1 - (i + 1), by omega, h₆, tk₆, i + 1, ys, news₆, rfl, hlt, rfl, hSt _ _ _ _ _ hst₂ heI q1 at₆.fr.keep q3 (hS _ _ _ hJ₆), at₆, hJ₆⟩
  · obtain rfl : i = n := Nat.le_antisymm hi (Nat.not_lt.mp hlt)
    refine W.done _ _ _ hst' fun h₂ tk₂ hk₂ => ?_
    obtain ⟨F', ⟨m', hn'⟩, N', off'⟩ := at'
    have off3 := off'.mem
    exact fin h₂ tk₂ ys news' (fr_but F' hk₂ hIL hI₀) (news_but N' hk₂ fun p hp => by
      rcases List.mem_cons.mp hp with rfl | hp
      · exact Ne.symm hDI
      · exact (off3 p hp).1) off' ⟨m', hn'.at' fun o e => hk₂ _ o (by simpa using Ne.symm hCI) e⟩ hJ

/-- the loop without a test, its target a name -/
theorem loop_N {elt iter : Expr} {x : Str} {px : Pos} {scope : Scope} {cenv : Env} {pos : Pos} {s₂ : Shared} {I C D : Addr} {fp : List Addr} {n : Nat} {P : Nat → Value → Prop} {St : Nat → Heap → Prop} {R : Result → Shared → Prop} {S : List (Addr × Obj) → Prop} (J : Nat → List Value → List (Addr × Obj) → Prop) {news0 : List (Addr × Obj)}
    (W : Walks prog w A I fp [I] n P St) (hsz : n ≤ sizeLine) (hIo : ∀ i h, St i h → ∃ o, h.get? I = some o)
    (hSt : ∀ i h h' o nw, St i h → h.get? I = some o → h'.get? I = some o → (∀ b o, h₀.get? b = some o → h'.get? b = some o) → News h₀ L h' nw → S nw → St i h')
    (hIL : L ≠ I) (hI₀ : h₀.get? I = none) (hCI : I ≠ C) (hDI : I ≠ D) (hDC : D ≠ C) (hCL : C ≠ L) (hC₀ : h₀.get? C = none) (hDL : D ≠ L) (hD₀ : h₀.get? D = none) (hDf : D ∉ fp)
    (hst : St 0 s₂.heap) (h0 : AtG h₀ L m I C D [] news0 s₂.heap) (hJ0 : J 0 [] news0) (hS : ∀ i ys nw, J i ys nw → S nw) (hlen : ∀ i ys nw, J i ys nw → ys.length ≤ i)
    (turn : ∀ i v oI oC m₂ ys news h tk (E' : Value → Shared → Prop), i < n → P i v → J i ys news → NsObj oC m₂ → Fr h₀ L h m → News h₀ L h ((I, oI) :: (C, oC) :: (D, lst ys) :: news) → Off3 I C D news →
      wpAny (model prog w) A (storeName cenv x v) (fun _ s₃ => wpAny (model prog w) A (eval elt cenv) (fun y s₅ => EndG h₀ L m I oI C D (lst ys) (J (i + 1) (ys ++ [y])) { s₂ with heap := h, toks := tk } s₅) E' s₃) E' { s₂ with heap := h, toks := tk })
    (fin : ∀ h tk ys news', Fr h₀ L h m → News h₀ L h ((D, lst ys) :: news') → Off3 I C D news' → (∃ m', h.Ns C m') → J n ys news' → R (.ok .next) { s₂ with heap := h, toks := tk }) :
    codeAny (model prog w) A (.compLoop (.ListComp elt [⟨.Name x px, iter, [], 0⟩] scope pos) 0 (.ref I) (.ref D) cenv) R s₂ := by
  refine codeAny_compLoop_tests (fun k s' => ∃ h' tk i ys news', s' = { s₂ with heap := h', toks := tk } ∧ i ≤ n ∧ k = n + 1 - i ∧ St i h' ∧ AtG h₀ L m I C D ys news' h' ∧ J i ys news') ?_ (n + 1)
    ⟨s₂.heap, s₂.toks, 0, [], news0, rfl, Nat.zero_le _, rfl, hst, h0, hJ0⟩
  rintro k s' ⟨h', tk, i, ys, news', rfl, hi, rfl, hst', at', hJ⟩
  by_cases hlt : i < n
  · refine W.item i _ _ _ hlt hst' fun v h₂ tk₂ hPv hst₂ hk₂ => ?_
    obtain ⟨oI, heI⟩ := hIo _ _ hst₂
    obtain ⟨oC, m₂, hoC, F₂, N₂⟩ := at'.open_ hIL hI₀ hCI hDI hCL hC₀ hk₂ heI
    have hl := hlen _ _ _ hJ
    refine wpAny_assign_Name ?_
    refine wpAny_mono (turn i v oI oC m₂ ys news' h₂ tk₂ _ hlt hPv hJ hoC F₂ N₂ at'.off) (fun _ s₃ h₃ => wpAny_tests_nil ?_) fun _ _ e => e
    simp only [if_true]
    refine wpAny_mono h₃ (fun y s₅ h₅ => ?_) fun _ _ e => e
    refine AtG.append h₅ hDL hD₀ hDC (by omega) fun h₆ tk₆ news₆ at₆ hJ₆ hq6 => ?_
    obtain ⟨h4, o4, q1, q2, q3, q4, _⟩ := hq6
    exact ⟨n + 1 - (i + 1), by omega, h₆, tk₆, i + 1, _, news₆, rfl, hlt, rfl, W.frame _ _ _ (hSt _ _ _ _ _ hst₂ heI q1 q2.keep q3 (hS _ _ _ hJ₆)) fun b hb o e => q4.extBut b o (fun q => hDf (q ▸ hb)) e, at₆, hJ₆⟩
  · obtain rfl : i = n := Nat.le_antisymm hi (Nat.not_lt.mp hlt)
    refine W.done _ _ _ hst' fun h₂ tk₂ hk₂ => ?_
    obtain ⟨F', ⟨m', hn'⟩, N', off'⟩ := at'
    have off3 := off'.mem
    exact fin h₂ tk₂ ys news' (fr_but F' hk₂ hIL hI₀) (news_but N' hk₂ fun p hp => by
      rcases List.mem_cons.mp hp with rfl | hp
      · exact Ne.symm hDI
      · exact (off3 p hp).1) off' ⟨m', hn'.at' fun o e => hk₂ _ o (by simpa using Ne.symm hCI) e⟩ hJ
end

end

-- part Cg2
section
theorem fresh_Cg2 : True := by w_top off; trivial
open LCg
section
variable {prog : Program} {w : World} {A : Around} {E : Value → Shared → Prop} {s : Shared} {h₀ : Heap} {L : Addr} {m : Str → Option Value} {env : Env}
/-- a source behind pyIter -/
def SrcG (prog : Program) (w : World) (A : Around) (h₀ : Heap) (L : Addr) (m : Str → Option Value) (target : Expr) (Cont : List (Addr × Obj) → Addr → Nat → (Nat → Value → Prop) → (List (Addr × Obj) → Prop) → Shared → Prop) (it : Value) (s₂ : Shared) : Prop :=
  ∃ (I : Addr) (fp : List Addr) (n : Nat) (P : Nat → Value → Prop) (St : Nat → Heap → Prop) (S : List (Addr × Obj) → Prop) (news : List (Addr × Obj)), it = .ref I ∧ Walks prog w A I fp [I] n P St ∧ n ≤ sizeLine ∧ (∀ i h, St i h → ∃ o, h.get? I = some o) ∧
    (∀ i h h' o nw, St i h → h.get? I = some o → h'.get? I = some o → (∀ b o, h₀.get? b = some o → h'.get? b = some o) → News h₀ L h' nw → S nw → St i h') ∧
    (∀ i v (s : Shared) (Q : Unit → Shared → Prop) (E : Value → Shared → Prop), St i s.heap → Q () s → wpAny (model prog w) A (letOwnedTupleGo target (.ref I) v) Q E s) ∧
    St 0 s₂.heap ∧ (∀ b ∈ fp, b < s₂.heap.objs.size) ∧ Fr h₀ L s₂.heap m ∧ News h₀ L s₂.heap news ∧ L ≠ I ∧ h₀.get? I = none ∧ I < s₂.heap.objs.size ∧ (∀ q ∈ news, q.1 < I) ∧ Cont news I n P S s₂
theorem srcG_list {target : Expr} {news : List (Addr × Obj)} {Cont : List (Addr × Obj) → Addr → Nat → (Nat → Value → Prop) → (List (Addr × Obj) → Prop) → Shared → Prop} {ax : Addr} {lo : Obj} {vs : List Value} {nn : Nat} (hh : A.handled = none) (F : Fr h₀ L s.heap m) (N : News h₀ L s.heap news)
    (ho : h₀.get? ax = some lo ∨ (ax, lo) ∈ news) (hc : lo.cls = .type "list") (hd : lo.data = .seq vs.toArray nn) (hsz : vs.length ≤ sizeLine)
    (h : ∀ I h', (∀ q ∈ news, @LT.lt Nat _ q.1 I) → @LT.lt Nat _ L I → Cont news I vs.length (fun i v => vs[i]? = some v) (fun nw => h₀.get? ax = some lo ∨ (ax, lo) ∈ nw) { s with heap := h' }) :
    wpAny (model prog w) A (pyIter (.ref ax)) (fun it s₂ => SrcG prog w A h₀ L m target Cont it s₂) E s := by
  have hl0 : s.heap.get? ax = some lo := ho.elim (F.keep _ _) fun q => (N _ q).1
  have hls : s.heap.IsList ax vs.toArray := ⟨lo, hl0, hc, nn, hd⟩
  have hlt : ax < s.heap.objs.size := Heap.lt_size hl0
  refine wpAny_pyIter_list hls ?_
  have hs : vs.toArray.size = vs.length := List.size_toArray
  refine ⟨s.heap.objs.size, [s.heap.objs.size, ax], vs.length, fun i v => vs[i]? = some v, fun i h => h.IsListIter s.heap.objs.size ax i ∧ h.IsList ax vs.toArray, fun nw => h₀.get? ax = some lo ∨ (ax, lo) ∈ nw, news, rfl, ?_, hsz, fun i h st => ?_, ?_, fun i v s Q E st q => letGo_listiter st.1 q, ⟨⟨_, Heap.get?_push_size _ rfl, rfl, rfl⟩, hls.at fun o e => Heap.get?_push_of_some _ e⟩, ?_, F.push _, (fun p hp => ⟨Heap.get?_push_of_some _ (N p hp).1, (N p hp).2⟩), Nat.ne_of_lt F.ns.lt, next_is_new F, ?_, (fun q hq => Heap.lt_size (N q hq).1), h _ _ (fun q hq => Heap.lt_size (N q hq).1) F.ns.lt⟩
  · have W := Walks.list (prog := prog) (w := w) hh s.heap.objs.size ax (Nat.ne_of_lt hlt) vs.toArray
    rw [hs] at W
    exact { sub := W.sub, frame := W.frame, item := fun i s Q E hi st hQ => W.item i s Q E hi st fun v h' tk hp => hQ v h' tk (by simpa using hp), done := W.done, self := W.self }
  · obtain ⟨o, e, _⟩ := st.1; exact ⟨o, e⟩
  · intro i h' h'' o nw st e e' k N' S'
    refine ⟨?_, ⟨lo, S'.elim (k _ _) fun q => (N' _ q).1, hc, nn, hd⟩⟩
    obtain ⟨o', q, r⟩ := st.1
    rw [e] at q; cases q
    exact ⟨o, e', r⟩
  · intro b hb
    show b < (s.heap.push _).objs.size
    rw [Heap.size_push]
    rcases List.mem_cons.mp hb with rfl | hb
    · exact Nat.lt_succ_self _
    · rw [List.mem_singleton.mp hb]; exact Nat.lt_succ_of_lt hlt
  · show s.heap.objs.size < (s.heap.push _).objs.size
    rw [Heap.size_push]; exact Nat.lt_succ_self _
theorem srcG_tuple {target : Expr} {news : List (Addr × Obj)} {Cont : List (Addr × Obj) → Addr → Nat → (Nat → Value → Prop) → (List (Addr × Obj) → Prop) → Shared → Prop} {ax : Addr} {lo : Obj} {vs : List Value} {nn : Nat} (hh : A.handled = none) (F : Fr h₀ L s.heap m) (N : News h₀ L s.heap news)
    (ho : h₀.get? ax = some lo ∨ (ax, lo) ∈ news) (hc : lo.cls = .type "tuple") (hd : lo.data = .seq vs.toArray nn) (hsz : vs.length ≤ sizeLine)
    (h : ∀ I h', (∀ q ∈ news, @LT.lt Nat _ q.1 I) → @LT.lt Nat _ L I → Cont news I vs.length (fun i v => vs[i]? = some v) (fun nw => h₀.get? ax = some lo ∨ (ax, lo) ∈ nw) { s with heap := h' }) :
    wpAny (model prog w) A (pyIter (.ref ax)) (fun it s₂ => SrcG prog w A h₀ L m target Cont it s₂) E s := by
  have hl0 : s.heap.get? ax = some lo := ho.elim (F.keep _ _) fun q => (N _ q).1
  have hls : s.heap.IsTuple ax vs.toArray := ⟨lo, hl0, hc, nn, hd⟩
  have hlt : ax < s.heap.objs.size := Heap.lt_size hl0
  refine wpAny_pyIter_tuple hls ?_
  have hs : vs.toArray.size = vs.length := List.size_toArray
  refine ⟨s.heap.objs.size, [s.heap.objs.size, ax], vs.length, fun i v => vs[i]? = some v, fun i h => h.IsTupleIter s.heap.objs.size ax i ∧ h.IsTuple ax vs.toArray, fun nw => h₀.get? ax = some lo ∨ (ax, lo) ∈ nw, news, rfl, ?_, hsz, fun i h st => ?_, ?_, fun i v s Q E st q => letGo_tupleiter st.1 q, ⟨⟨_, Heap.get?_push_size _ rfl, rfl, rfl⟩, hls.at fun o e => Heap.get?_push_of_some _ e⟩, ?_, F.push _, (fun p hp => ⟨Heap.get?_push_of_some _ (N p hp).1, (N p hp).2⟩), Nat.ne_of_lt F.ns.lt, next_is_new F, ?_, (fun q hq => Heap.lt_size (N q hq).1), h _ _ (fun q hq => Heap.lt_size (N q hq).1) F.ns.lt⟩
  · have W := Walks.tuple (prog := prog) (w := w) hh s.heap.objs.size ax (Nat.ne_of_lt hlt) vs.toArray
    rw [hs] at W
    exact { sub := W.sub, frame := W.frame, item := fun i s Q E hi st hQ => W.item i s Q E hi st fun v h' tk hp => hQ v h' tk (by simpa using hp), done := W.done, self := W.self }
  · obtain ⟨o, e, _⟩ := st.1; exact ⟨o, e⟩
  · intro i h' h'' o nw st e e' k N' S'
    refine ⟨?_, ⟨lo, S'.elim (k _ _) fun q => (N' _ q).1, hc, nn, hd⟩⟩
    obtain ⟨o', q, r⟩ := st.1
    rw [e] at q; cases q
    exact ⟨o, e', r⟩
  · intro b hb
    show b < (s.heap.push _).objs.size
    rw [Heap.size_push]
    rcases List.mem_cons.mp hb with rfl | hb
    · exact Nat.lt_succ_self _
    · rw [List.mem_singleton.mp hb]; exact Nat.lt_succ_of_lt hlt
  · show s.heap.objs.size < (s.heap.push _).objs.size
    rw [Heap.size_push]; exact Nat.lt_succ_self _
/-- the frame of a comprehension with one cell of its own -/
theorem newEnv_K {M : Model} {scope : Scope} {g : Addr} {cl : List (Str × Addr)} {qual x : Str} {Q : Env → Shared → Prop} (hcf : ∀ n, cellsFrom n scope.names cl = (x, n) :: cl) (hpc : ∀ h, pushCells h scope.names = h.push { cls := .type "cell", data := .cell none })
    (h : Q { scope := scope, locals := s.heap.objs.size, globals := g, cells := (x, s.heap.objs.size + 1) :: cl, qual := qual, func := none, code := env.code, frame := env.frame, builtins := env.builtins } { s with heap := (s.heap.push { cls := .type "dict", data := .dict #[] }).push { cls := .type "cell", data := .cell none } }) :
    wpAny M A (newFunctionEnv scope g cl [] qual none .none (some env)) Q E s := by
  simp only [newFunctionEnv, Option.isSome_some, if_true]
  refine wpAny_bind (wpAny_alloc ?_)
  refine wpAny_bind (wpAny_layCells _ (fun name kind cells => by cases hkc : kind == NameKind.cell <;> simp [hkc]) _ _ _ _ ?_)
  rw [hcf, hpc]
  have e1 : ({ s with heap := s.heap.push { cls := .type "dict", data := .dict #[] } } : Shared).heap.objs.size = s.heap.objs.size + 1 := Heap.size_push ..
  rw [e1]
  refine wpAny_bind ?_
  rw [List.forIn_nil]
  exact wpAny_pure (wpAny_pure h)
def ContT (prog : Program) (w : World) (A : Around) (h₀ : Heap) (L : Addr) (m : Str → Option Value) (env : Env) (target ct elt : Expr) (scope : Scope) (cl : List (Str × Addr)) (news : List (Addr × Obj)) (Q : Value → Shared → Prop) (I : Addr) (n : Nat) (P : Nat → Value → Prop) (S : List (Addr × Obj) → Prop) (s₂ : Shared) : Prop :=
  ∃ J : Nat → List Value → List (Addr × Obj) → Prop, J 0 [] news ∧ (∀ i ys nw, J i ys nw → S nw) ∧ (∀ i ys nw, J i ys nw → ys.length ≤ i) ∧
    (∀ C D i v oI oC m₂ ys nw h tk (E' : Value → Shared → Prop), @LT.lt Nat _ I D → @LT.lt Nat _ D C → i < n → P i v → J i ys nw → NsObj oC m₂ → Fr h₀ L h m → News h₀ L h ((I, oI) :: (C, oC) :: (D, lst ys) :: nw) → Off3 I C D nw →
      wpAny (model prog w) A (assign target (compEnvC scope cl C env) v) (fun _ s₃ => wpAny (model prog w) A (isTrue ct (compEnvC scope cl C env) (eval ct (compEnvC scope cl C env))) (fun ok s₄ => if ok = true then wpAny (model prog w) A (eval elt (compEnvC scope cl C env)) (fun y s₅ => EndG h₀ L m I oI C D (lst ys) (J (i + 1) (ys ++ [y])) { s₂ with heap := h, toks := tk } s₅) E' s₄
        else EndG h₀ L m I oI C D (lst ys) (J (i + 1) ys) { s₂ with heap := h, toks := tk } s₄) E' s₃) E' { s₂ with heap := h, toks := tk }) ∧
    (∀ D h tk ys nw, Fr h₀ L h m → News h₀ L h ((D, lst ys) :: nw) → Off1 D nw → J n ys nw → Q (.ref D) { s₂ with heap := h, toks := tk })
def ContKR (prog : Program) (w : World) (A : Around) (h₀ : Heap) (L : Addr) (m : Str → Option Value) (env : Env) (x : Str) (elt : Expr) (scope : Scope) (cl : List (Str × Addr)) (news : List (Addr × Obj)) (Fin : Addr → Heap → Nat → List Value → List (Addr × Obj) → Shared → Prop) (I : Addr) (n : Nat) (P : Nat → Value → Prop) (S : List (Addr × Obj) → Prop) (s₂ : Shared) : Prop :=
  ∀ (K : Addr) (oK : Obj), oK.data = .cell none → @LT.lt Nat _ I K → ∃ J : Nat → List Value → List (Addr × Obj) → Prop, J 0 [] ((K, oK) :: news) ∧ (∀ i ys nw, J i ys nw → S nw) ∧ (∀ i ys nw, J i ys nw → ys.length ≤ i) ∧
    (∀ C D i v oI oC m₂ ys nw h tk (E' : Value → Shared → Prop), @LT.lt Nat _ I D → @LT.lt Nat _ D C → @LT.lt Nat _ C K → i < n → P i v → J i ys nw → NsObj oC m₂ → Fr h₀ L h m → News h₀ L h ((I, oI) :: (C, oC) :: (D, lst ys) :: nw) → Off3 I C D nw →
      wpAny (model prog w) A (storeName (compEnvC scope ((x, K) :: cl) C env) x v) (fun _ s₃ => wpAny (model prog w) A (eval elt (compEnvC scope ((x, K) :: cl) C env)) (fun y s₅ => EndG h₀ L m I oI C D (lst ys) (J (i + 1) (ys ++ [y])) { s₂ with heap := h, toks := tk } s₅) E' s₃) E' { s₂ with heap := h, toks := tk }) ∧
    (∀ D h tk ys nw, J n ys nw → Fin D h tk ys nw s₂)
/-- a list D and a frame C laid behind an iterator I: how they stand to each other, to the frame L, to the ground and to the ledger -/
structure Room (h₀ : Heap) (L I C D : Addr) (nw : List (Addr × Obj)) : Prop where
  dc : D ≠ C
  cl : C ≠ L
  dl : D ≠ L
  c0 : h₀.get? C = none
  d0 : h₀.get? D = none
  ic : I ≠ C
  id : I ≠ D
  off : Off3 I C D nw
theorem room {H : Heap} {I C : Addr} {nw : List (Addr × Obj)} (F : Fr h₀ L H m) (hI : @LT.lt Nat _ I H.objs.size) (hn : ∀ q ∈ nw, @LT.lt Nat _ q.1 I) (e : C = H.objs.size + 1) : Room h₀ L I C H.objs.size nw := by
  subst e
  have hL : @LT.lt Nat _ L H.objs.size := F.ns.lt
  have up : ∀ a, @LT.lt Nat _ a H.objs.size → @LT.lt Nat _ a (H.objs.size + 1) := fun _ q => Nat.lt_succ_of_lt q
  have g0 : @LE.le Nat _ h₀.objs.size H.objs.size := Nat.le_trans F.above (Nat.le_of_lt hL)
  exact ⟨Nat.ne_of_lt (Nat.lt_succ_self _), Nat.ne_of_gt (up _ hL), Nat.ne_of_gt hL, Heap.get?_none_of_le (Nat.le_succ_of_le g0), Heap.get?_none_of_le g0, Nat.ne_of_lt (up _ hI), Nat.ne_of_lt hI,
    Off3.of fun q hq => ⟨Nat.ne_of_lt (hn q hq), Nat.ne_of_lt (up _ (Nat.lt_trans (hn q hq) hI)), Nat.ne_of_lt (Nat.lt_trans (hn q hq) hI)⟩⟩
theorem comp_T {elt target iter ct : Expr} {scope : Scope} {cl : List (Str × Addr)} {pos : Pos} {Q : Value → Shared → Prop} (_F₀ : Fr h₀ L s.heap m)
    (hclos : closureFor scope env = pure cl) (hcell : ∀ y ∈ scope.names, y.2 ≠ .cell) (hkind : scope.kind = .function) (hnames : ∀ y ∈ scope.names, y.2 = .local → scope.names.lookup y.1 = some .local)
    (h : wpAny (model prog w) A (eval iter env) (fun xv s₁ => wpAny (model prog w) A (pyIter xv) (fun it s₂ => SrcG prog w A h₀ L m target (fun news => ContT prog w A h₀ L m env target ct elt scope cl news Q) it s₂) E s₁) E s)
    (hs : ∀ x, foldedSetIterable iter env x = pure x := by intro _; rfl) :
    wpAny (model prog w) A (eval (.ListComp elt [⟨target, iter, [ct], 0⟩] scope pos) env) Q E s := by
  rw [eval_ListComp]
  refine wpAny_comprehension_free (use := none) rfl hs hclos hkind hnames (wpAny_mono h (fun xv s₁ h₁ => wpAny_mono h₁ (fun it s₂ h₂ => ?_) fun _ _ e => e) fun _ _ e => e)
  obtain ⟨I, fp, n, P, St, S, news, rfl, W, hsz, hIo, hSt, hgo, hst, hfp, F, N, hIL, hI₀, hIlt, hnI, J, hJ0, hJS, hJl, turn, fin⟩ := h₂
  refine wpAny_newObj_type (wpAny_newFunctionEnv hcell (fun y hy => nomatch hy) (fun h₁ ns sb => ?_) hkind)
  dsimp only at ns sb ⊢
  obtain ⟨G, hG⟩ : ∃ G, s₂.heap.push { cls := .type "list", dict := none, data := .seq ([] : List Value).toArray } = G := ⟨_, rfl⟩
  rw [hG] at ns sb ⊢
  have eC : G.objs.size = s₂.heap.objs.size + 1 := by rw [← hG, Heap.size_push]
  have R := room F hIlt hnI eC
  have lt1 : ∀ b, @LT.lt Nat _ b s₂.heap.objs.size → @Ne Nat b G.objs.size := fun b q => by rw [eC]; exact Nat.ne_of_lt (Nat.lt_succ_of_lt q)
  have kb : ∀ b o, s₂.heap.get? b = some o → h₁.get? b = some o := fun b o e => sb.extBut b o (lt1 b (Heap.lt_size e)) (Heap.get?_push_of_some _ (by rw [← hG]; exact Heap.get?_push_of_some _ e))
  have st1 := W.frame _ _ _ hst fun b _ o e => kb b o e
  refine codeAny_compStart_list ?_ ?_
  all_goals first
    | refine W.self 0 _ _ _ st1 ?_
    | skip
  all_goals
    refine loop_T (cenv := compEnvC scope cl G.objs.size env) (s₂ := { s₂ with heap := h₁, toks := s₂.toks + ([] : List (Str × Value)).length }) J W hsz hIo hSt hgo hIL hI₀ R.ic R.id R.dc R.cl R.c0 R.dl R.d0 (fun q => Nat.lt_irrefl _ (hfp _ q)) st1
      ⟨F.keeps kb, ⟨_, ns⟩, List.forall_mem_cons.mpr ⟨⟨sb.extBut _ _ R.dc (Heap.get?_push_of_some _ (by rw [← hG]; exact Heap.get?_push_size _ rfl)), R.dl, R.d0⟩, fun q hq => ⟨kb _ _ (N q hq).1, (N q hq).2⟩⟩, R.off⟩ hJ0 hJS hJl
      (fun i v oI oC m₂ ys nw h tk E' => turn _ _ i v oI oC m₂ ys nw h tk E' hIlt (by rw [eC]; exact Nat.lt_succ_self _)) ?_
    rintro h tk ys nw F' N' o3 ⟨m', hn'⟩ hJ
    have l9 := List.forall_mem_cons.mp N'
    exact ⟨m', hn', fun h'' x => fin _ h'' tk ys nw (F'.change x R.cl R.c0) (List.forall_mem_cons.mpr ⟨⟨x.extBut _ _ R.dc l9.1.1, l9.1.2⟩, fun q hq => ⟨x.extBut _ _ (o3.mem q hq).2.1 (l9.2 q hq).1, (l9.2 q hq).2⟩⟩) o3.one hJ⟩
theorem block_K {elt iter : Expr} {x : Str} {px : Pos} {scope : Scope} {cl : List (Str × Addr)} {pos : Pos} {news : List (Addr × Obj)} {s₂ : Shared} {I : Addr} {fp : List Addr} {n : Nat} {P : Nat → Value → Prop} {St : Nat → Heap → Prop} {S : List (Addr × Obj) → Prop} {Fin : Addr → Heap → Nat → List Value → List (Addr × Obj) → Shared → Prop} {RR : Value → Addr → Result → Shared → Prop}
    (hcf : ∀ n, cellsFrom n scope.names cl = (x, n) :: cl) (hpc : ∀ h, pushCells h scope.names = h.push { cls := .type "cell", data := .cell none })
    (W : Walks prog w A I fp [I] n P St) (hsz : n ≤ sizeLine) (hIo : ∀ i h, St i h → ∃ o, h.get? I = some o)
    (hSt : ∀ i h h' o nw, St i h → h.get? I = some o → h'.get? I = some o → (∀ b o, h₀.get? b = some o → h'.get? b = some o) → News h₀ L h' nw → S nw → St i h')
    (hst : St 0 s₂.heap) (hfp : ∀ b ∈ fp, b < s₂.heap.objs.size) (F : Fr h₀ L s₂.heap m) (N : News h₀ L s₂.heap news) (hIL : L ≠ I) (hI₀ : h₀.get? I = none) (hIlt : I < s₂.heap.objs.size) (hnI : ∀ q ∈ news, q.1 < I)
    (cont : ContKR prog w A h₀ L m env x elt scope cl news Fin I n P S s₂)
    (hRR : ∀ D C h tk ys nw m', Fr h₀ L h m → News h₀ L h ((D, lst ys) :: nw) → Off1 D nw → h.Ns C m' → h₀.get? C = none → C ≠ L → D ≠ C → (∀ p ∈ nw, p.1 ≠ C) → h₀.get? D = none → D ≠ L → (∀ s₃ : Shared, (∃ h9, s₃ = { s₂ with heap := h9 }) → Fin D h tk ys nw s₂) → RR (.ref D) C (.ok .next) { s₂ with heap := h, toks := tk }) :
    wpAny (model prog w) A (newList []) (fun acc s₃ => wpAny (model prog w) A (newFunctionEnv scope env.globals cl [] env.qual none .none (some env)) (fun cenv s₄ =>
      codeAny (model prog w) A (.compStart (.ListComp elt [⟨.Name x px, iter, [], 0⟩] scope pos) 0 (.ref I) acc { cenv with scope := relabel scope env }) (RR acc cenv.locals) s₄) E s₃) E s₂ := by
  refine wpAny_newObj_type (newEnv_K hcf hpc ?_)
  dsimp only
  generalize hH1 : s₂.heap.push { cls := .type "list", dict := none, data := .seq ([] : List Value).toArray } = H1
  have z1 : H1.objs.size = s₂.heap.objs.size + 1 := by rw [← hH1, Heap.size_push]
  generalize hH2 : H1.push { cls := .type "dict", data := .dict #[] } = H2
  have z2 : H2.objs.size = s₂.heap.objs.size + 2 := by rw [← hH2, Heap.size_push, z1]
  obtain ⟨oK, hoK⟩ : ∃ oK : Obj, oK = { cls := .type "cell", data := .cell none } := ⟨_, rfl⟩
  have k1 : ∀ b o, s₂.heap.get? b = some o → H1.get? b = some o := fun b o e => hH1 ▸ Heap.get?_push_of_some _ e
  have k2 : ∀ b o, H1.get? b = some o → H2.get? b = some o := fun b o e => hH2 ▸ Heap.get?_push_of_some _ e
  have k3 : ∀ b o, H2.get? b = some o → (H2.push { cls := .type "cell", data := .cell none }).get? b = some o := fun b o e => Heap.get?_push_of_some _ e
  have old : ∀ b o, s₂.heap.get? b = some o → (H2.push { cls := .type "cell", data := .cell none }).get? b = some o := fun b o e => k3 _ _ (k2 _ _ (k1 _ _ e))
  have hacc : (H2.push { cls := .type "cell", data := .cell none }).get? s₂.heap.objs.size = some (lst []) := k3 _ _ (k2 _ _ (hH1 ▸ Heap.get?_push_size _ rfl))
  have hCns : (H2.push { cls := .type "cell", data := .cell none }).Ns H1.objs.size fun _ => none := by
    have := (Heap.Ns.new H1 (.type "dict"))
    rw [hH2] at this
    exact this.keeps k3
  have hKc : (H2.push { cls := .type "cell", data := .cell none }).get? H2.objs.size = some oK := by rw [hoK]; exact Heap.get?_push_size _ rfl
  have st1 : St 0 (H2.push { cls := .type "cell", data := .cell none }) := W.frame _ _ _ hst fun b _ o e => old b o e
  have R := room F hIlt hnI z1
  have hL : @LT.lt Nat _ L H2.objs.size := by rw [z2]; exact Nat.lt_of_lt_of_le F.ns.lt (Nat.le_add_right _ 2)
  have eK : H1.objs.size + 1 = H2.objs.size := by rw [z1, z2]
  have gK : h₀.get? H2.objs.size = none := Heap.get?_none_of_le (Nat.le_trans F.above (Nat.le_of_lt hL))
  have hI2 : @LT.lt Nat _ I H2.objs.size := by rw [z2]; exact Nat.lt_of_lt_of_le hIlt (Nat.le_add_right _ 2)
  have hD2 : @LT.lt Nat _ s₂.heap.objs.size H2.objs.size := by rw [z2]; exact Nat.lt_add_of_pos_right (by decide)
  have hC2 : @LT.lt Nat _ H1.objs.size H2.objs.size := by rw [← eK]; exact Nat.lt_succ_self _
  rw [eK]
  obtain ⟨J, hJ0, hJS, hJl, turn, fin⟩ := cont H2.objs.size oK (by rw [hoK]) hI2
  refine codeAny_compStart_list ?_ ?_
  all_goals first
    | refine W.self 0 _ _ _ st1 ?_
    | skip
  all_goals
    refine loop_N (cenv := compEnvC scope ((x, H2.objs.size) :: cl) H1.objs.size env) (s₂ := { s₂ with heap := H2.push { cls := .type "cell", data := .cell none } }) J W hsz hIo hSt hIL hI₀ R.ic R.id R.dc R.cl R.c0 R.dl R.d0 (fun q => Nat.lt_irrefl _ (hfp _ q)) st1
      ⟨F.keeps old, ⟨_, hCns⟩, List.forall_mem_cons.mpr ⟨⟨hacc, R.dl, R.d0⟩, List.forall_mem_cons.mpr ⟨⟨hKc, Nat.ne_of_gt hL, gK⟩, fun q hq => ⟨old _ _ (N q hq).1, (N q hq).2⟩⟩⟩, ⟨⟨Nat.ne_of_gt hI2, Nat.ne_of_gt hC2, Nat.ne_of_gt hD2⟩, R.off⟩⟩ hJ0 hJS hJl
      (fun i v oI oC m₂ ys nw h tk E' => turn _ _ i v oI oC m₂ ys nw h tk E' hIlt (by rw [z1]; exact Nat.lt_succ_self _) hC2) ?_
    rintro h tk ys nw F' N' o3 ⟨m', hn'⟩ hJ
    exact hRR _ _ h tk ys nw m' F' N' o3.one hn' R.c0 R.cl R.dc (fun q hq => (o3.mem q hq).2.1) R.d0 R.dl (fun _ _ => fin _ h tk ys nw hJ)
theorem comp_K {elt iter : Expr} {x : Str} {px : Pos} {scope : Scope} {cl : List (Str × Addr)} {pos : Pos} {Q : Value → Shared → Prop} (_F₀ : Fr h₀ L s.heap m)
    (hclos : closureFor scope env = pure cl) (hcf : ∀ n, cellsFrom n scope.names cl = (x, n) :: cl) (hpc : ∀ h, pushCells h scope.names = h.push { cls := .type "cell", data := .cell none }) (hkind : scope.kind = .function) (hnames : ∀ y ∈ scope.names, y.2 = .local → scope.names.lookup y.1 = some .local)
    (h : wpAny (model prog w) A (eval iter env) (fun xv s₁ => wpAny (model prog w) A (pyIter xv) (fun it s₂ => SrcG prog w A h₀ L m (.Name x px) (fun news => ContKR prog w A h₀ L m env x elt scope cl news (fun D _ _ ys nw s₂ => ∀ h tk, Fr h₀ L h m → News h₀ L h ((D, lst ys) :: nw) → Off1 D nw → Q (.ref D) { s₂ with heap := h, toks := tk })) it s₂) E s₁) E s)
    (hs : ∀ x, foldedSetIterable iter env x = pure x := by intro _; rfl) :
    wpAny (model prog w) A (eval (.ListComp elt [⟨.Name x px, iter, [], 0⟩] scope pos) env) Q E s := by
  rw [eval_ListComp]
  refine wpAny_comprehension_free (use := none) rfl hs hclos hkind hnames (wpAny_mono h (fun xv s₁ h₁ => wpAny_mono h₁ (fun it s₂ h₂ => ?_) fun _ _ e => e) fun _ _ e => e)
  obtain ⟨I, fp, n, P, St, S, news, rfl, W, hsz, hIo, hSt, hgo, hst, hfp, F, N, hIL, hI₀, hIlt, hnI, cont⟩ := h₂
  refine block_K hcf hpc W hsz hIo hSt hst hfp F N hIL hI₀ hIlt hnI cont ?_
  intro D C h tk ys nw m' F' N' o1 hn' hC₀ hCL hDC offC hD₀ hDL fin
  refine ⟨m', hn', fun h'' hs'' => fin s₂ ⟨s₂.heap, rfl⟩ h'' tk (F'.change hs'' hCL hC₀) (fun p hp => ?_) o1⟩
  refine ⟨hs''.extBut _ _ ?_ (N' p hp).1, (N' p hp).2⟩
  rcases List.mem_cons.mp hp with rfl | hp
  · exact hDC
  · exact offC p hp
theorem assign_K {elt iter : Expr} {x y : Str} {px py : Pos} {scope : Scope} {cl : List (Str × Addr)} {pos spos : Pos} {Q : Flow → Shared → Prop} (_F₀ : Fr h₀ L s.heap m) (hLe : env.locals = L)
    (hsw : swapsWith (.ListComp elt [⟨.Name x px, iter, [], 0⟩] scope pos) (some (.Name y py)) spos.line env = pure true)
    (hclos : closureFor scope env = pure cl) (hcf : ∀ n, cellsFrom n scope.names cl = (x, n) :: cl) (hpc : ∀ h, pushCells h scope.names = h.push { cls := .type "cell", data := .cell none }) (hkind : scope.kind = .function) (hnames : ∀ y ∈ scope.names, y.2 = .local → scope.names.lookup y.1 = some .local)
    (hy : env.kindOf y = some .local) (hp : (env.scope.kind == .class || (env.scope.kind == .module && env.locals != env.globals)) = false)
    (h : wpAny (model prog w) A (eval iter env) (fun xv s₁ => wpAny (model prog w) A (pyIter xv) (fun it s₂ => SrcG prog w A h₀ L m (.Name x px) (fun news => ContKR prog w A h₀ L m env x elt scope cl news (fun D _ _ ys nw s₂ => ∀ h tk, Fr h₀ L h (fun z => if z = y then some (.ref D) else m z) → News h₀ L h ((D, lst ys) :: nw) → Off1 D nw → Q .next { s₂ with heap := h, toks := tk })) it s₂) E s₁) E s)
    (hs : ∀ x, foldedSetIterable iter env x = pure x := by intro _; rfl) :
    wpAny (model prog w) A (exec (.Assign [.Name y py] (.ListComp elt [⟨.Name x px, iter, [], 0⟩] scope pos) spos) env) Q E s := by
  subst hLe
  rw [exec_Assign_Name_used _ _ _ _ hsw]
  refine wpAny_bind (wpAny_standAt (wpAny_bind ?_))
  show wpAny _ A (do let _ ← comprehension (.ListComp elt [⟨.Name x px, iter, [], 0⟩] scope pos) scope env _ (newList []) false (eval iter env) (some (assign (.Name y py) env))) _ _ s
  refine wpAny_bind (wpAny_mono (wpAny_comprehension_free (use := some (assign (.Name y py) env)) (Q := fun _ s' => Q .next s') rfl hs hclos hkind hnames (wpAny_mono h (fun xv s₁ h₁ => wpAny_mono h₁ (fun it s₂ h₂ => ?_) fun _ _ e => e) fun _ _ e => e)) (fun _ s' hq => wpAny_pure (wpAny_pure hq)) fun _ _ e => e)
  obtain ⟨I, fp, n, P, St, S, news, rfl, W, hsz, hIo, hSt, hgo, hst, hfp, F, N, hIL, hI₀, hIlt, hnI, cont⟩ := h₂
  refine block_K hcf hpc W hsz hIo hSt hst hfp F N hIL hI₀ hIlt hnI cont ?_
  intro D C h' tk ys nw m' F' N' o1 hn hC₀ hCL hDC offC hD₀ hDL fin
  show wpAny _ A (assign (.Name y py) env (.ref D)) _ _ _
  refine wpAny_assign_Name (wpAny_storeName_local hy F'.ns (fun h₂ hn₂ hs₂ => ?_) hp)
  have hL₀ : h₀.get? env.locals = none := Heap.get?_none_of_le F'.above
  have F₂ : Fr h₀ env.locals h₂ (fun z => if z = y then some (.ref D) else m z) := ⟨hn₂, fun b o e => hs₂.extBut b o (fun q => by rw [q, hL₀] at e; cases e) (F'.keep b o e), F'.above⟩
  refine ⟨m', hn.sameBut hs₂ hCL, fun h'' hs'' => fin s₂ ⟨s₂.heap, rfl⟩ h'' _ (F₂.change hs'' hCL hC₀) (fun p hp => ?_) o1⟩
  have z : h₂.get? p.1 = some p.2 := hs₂.extBut _ _ (N' p hp).2.1 (N' p hp).1
  refine ⟨hs''.extBut _ _ ?_ z, (N' p hp).2⟩
  rcases List.mem_cons.mp hp with rfl | hp
  · exact hDC
  · exact offC p hp
end

end

-- part C17a
section
theorem fresh_C17a : True := by w_top off; trivial
local macro_rules | `(tactic| walk_at "zz9") => `(tactic| fail)
local macro_rules | `(tactic| walk_at "zz9") => `(tactic| fail)
local macro_rules | `(tactic| walk_at "zz9") => `(tactic| fail)
open LCg LCt
section
variable {M : Model} {A : Around} {E : Value → Shared → Prop} {s : Shared}
theorem holdI1 {p : Program} {w : World} {B : Around} {h₀ : Heap} {L : Addr} {m : Str → Option Value} {tg : Expr} {C : List (Addr × Obj) → Addr → Nat → (Nat → Value → Prop) → (List (Addr × Obj) → Prop) → Shared → Prop} {v : Value}
    (h : Hold (wpAny M A (pyIter v) (fun it s₂ => SrcG p w B h₀ L m tg C it s₂) E s)) : wpAny M A (pyIter v) (fun it s₂ => SrcG p w B h₀ L m tg C it s₂) E s := h
theorem holdI2 {p : Program} {w : World} {B : Around} {h₀ : Heap} {env : Env} {es : List Expr} {c : Nat} {ps : Pos} {b : List Stmt} {q : Flow → Shared → Prop} {e : Value → Shared → Prop} {v : Value}
    (h : Hold (wpAny M A (pyIter v) (fun it s₂ => TurnsAt p w B h₀ env (Expr.Tuple es c ps) b q e it s₂) E s)) : wpAny M A (pyIter v) (fun it s₂ => TurnsAt p w B h₀ env (Expr.Tuple es c ps) b q e it s₂) E s := h
theorem holdI3 {p : Program} {w : World} {B : Around} {h₀ : Heap} {env : Env} {n : Str} {ps : Pos} {b : List Stmt} {q : Flow → Shared → Prop} {e : Value → Shared → Prop} {v : Value}
    (h : Hold (wpAny M A (pyIter v) (fun it s₂ => TurnsAt p w B h₀ env (Expr.Name n ps) b q e it s₂) E s)) : wpAny M A (pyIter v) (fun it s₂ => TurnsAt p w B h₀ env (Expr.Name n ps) b q e it s₂) E s := h
theorem holdLT {elt it : Expr} {es : List Expr} {c : Nat} {ps pos : Pos} {f : List Expr} {k : Int} {sc : Scope} {env : Env} {Q : Value → Shared → Prop}
    (h : Hold (wpAny M A (eval (Expr.ListComp elt [⟨Expr.Tuple es c ps, it, f, k⟩] sc pos) env) Q E s)) : wpAny M A (eval (Expr.ListComp elt [⟨Expr.Tuple es c ps, it, f, k⟩] sc pos) env) Q E s := h
end
theorem rows_ledger {g h : Heap} {L : Addr} {m : Str → Option Value} {S : Addr → Prop} (F : Fr g L h m) {vs : List Value} {rs : List (Str × Str)} (R : RowsAt h vs rs) (hS : ∀ (c : Nat) (a : Addr), vs[c]? = some (.ref a) → S a) : ∃ nx, News g L h nx ∧ RowsO g nx vs rs ∧ ∀ p ∈ nx, S p.1 := by
  induction R with
  | nil => exact ⟨[], News.nil, .nil, fun _ h => nomatch h⟩
  | cons y _ ih =>
    obtain ⟨nx, N, rr, hs⟩ := ih fun c a e => hS (c + 1) a (by simpa using e)
    obtain ⟨a, t, u, rfl, ⟨o, ho, hc, n, hd⟩, _⟩ := y
    cases q : g.get? a with
    | some o' =>
      have := F.keep _ _ q
      rw [ho] at this; cases this
      exact ⟨nx, N, .cons ⟨a, o, t, u, n, rfl, .inl q, hc, hd⟩ rr, hs⟩
    | none =>
      refine ⟨(a, o) :: nx, fun p hp => ?_, .cons ⟨a, o, t, u, n, rfl, .inr (.head _), hc, hd⟩ (rr.mono fun _ q => .tail _ q), fun p hp => ?_⟩
      · rcases List.mem_cons.mp hp with rfl | hp
        · refine ⟨ho, fun e => ?_, q⟩
          obtain ⟨o', es, ep, hL, hdd, _⟩ := F.ns
          have e' : a = L := e
          rw [← e', ho] at hL; cases hL
          rw [hd] at hdd; cases hdd
        · exact N p hp
      · rcases List.mem_cons.mp hp with rfl | hp
        · exact hS 0 a rfl
        · exact hs p hp
theorem guests_ledger {g h h2 : Heap} {L gl : Addr} {m : Str → Option Value} {news : List (Addr × Obj)} {vg : List Value} {rs : List (Str × Str)} (F : Fr g L h m) (N : News g L h news) (k : ∀ b o, h.get? b = some o → h2.get? b = some o) (hr : h.get? gl = none) (hg : h2.get? gl = some (lst vg)) (R : RowsAt h2 vg rs)
    (hf : ∀ (c : Nat) (a : Addr), vg[c]? = some (.ref a) → @LE.le Nat _ h.objs.size a) :
    ∃ nx, Fr g L h2 m ∧ News g L h2 (news ++ nx) ∧ (gl, lst vg) ∈ nx ∧ RowsO g nx vg rs ∧ ∀ d o, (d, o) ∈ news → ∀ p ∈ nx, p.1 ≠ d := by
  have F2 := F.keeps k
  obtain ⟨nx, N2, rr, hs⟩ := rows_ledger (S := fun a => h.get? a = none) F2 R fun c a e => Heap.get?_none_of_le (hf c a e)
  refine ⟨(gl, lst vg) :: nx, F2, fun p hp => ?_, .head _, rr.mono fun _ q => .tail _ q, fun d o hm p hp e => ?_⟩
  · rcases List.mem_append.mp hp with hp | hp
    · exact (N.grown k) p hp
    · rcases List.mem_cons.mp hp with rfl | hp
      · refine ⟨hg, fun e => ?_, ?_⟩
        · obtain ⟨o', _, _, hL, _⟩ := F.ns
          have e' : gl = L := e
          rw [← e', hr] at hL; cases hL
        · cases q : g.get? gl with
          | none => rfl
          | some o => have := F.keep _ _ q; rw [hr] at this; cases this
      · exact N2 p hp
  · have := (N (d, o) hm).1
    dsimp only at this
    rcases List.mem_cons.mp hp with rfl | hp
    · rw [← e, hr] at this; cases this
    · rw [← e, hs p hp] at this; cases this
theorem tail_lt {nx : List (Addr × Obj)} {d : Addr} (h : AllLt d nx) : ∀ p ∈ nx, p.1 ≠ d := fun p hp => Nat.ne_of_lt (tb_ltOf h p hp)
theorem after_add2 {g h h' : Heap} {L lm b : Addr} {m : Str → Option Value} {I : Addr × Obj} {ol ol2 ob : Obj} {rest : List (Addr × Obj)} (F : Fr g L h m) (N : News g L h (I :: (lm, ol) :: rest)) (kb : ∀ b o, b ≠ lm → h.get? b = some o → h'.get? b = some o) (hb : h.get? b = none) (hob : h'.get? b = some ob) (hbl : h'.get? lm = some ol2)
    (n1 : I.1 ≠ lm) (n6 : ∀ q ∈ rest, q.1 ≠ lm) :
    Fr g L h' m ∧ News g L h' (I :: (lm, ol2) :: (rest ++ [(b, ob)])) ∧ (∀ q ∈ (I :: (lm, ol) :: rest), q.1 ≠ b) := by
  have nl := N (lm, ol) (.tail _ (.head _))
  have neb : ∀ q ∈ (I :: (lm, ol) :: rest), q.1 ≠ b := fun q hq e => by
    have := (N q hq).1
    rw [e, hb] at this; cases this
  refine ⟨fr_butL (adr := [lm]) F (fun b o hb e => kb b o (by simpa using hb) e) (fun a ha => by rw [List.mem_singleton.mp ha]; exact ⟨nl.2.2, nl.2.1⟩), fun q hq => ?_, neb⟩
  have old : ∀ q ∈ (I :: (lm, ol) :: rest), q.1 ≠ lm → h'.get? q.1 = some q.2 ∧ q.1 ≠ L ∧ g.get? q.1 = none := fun q hq z => ⟨kb _ _ z (N q hq).1, (N q hq).2⟩
  rcases List.mem_cons.mp hq with rfl | hq
  · exact old _ (.head _) n1
  rcases List.mem_cons.mp hq with rfl | hq
  · exact ⟨hbl, nl.2⟩
  rcases List.mem_append.mp hq with hq | hq
  · exact old _ (.tail _ (.tail _ hq)) (n6 q hq)
  · rw [List.mem_singleton.mp hq]
    refine ⟨hob, fun e => ?_, ?_⟩
    · obtain ⟨o, _, _, hL, _⟩ := F.ns
      have e' : b = L := e
      rw [← e', hb] at hL; cases hL
    · cases q : g.get? b with
      | none => rfl
      | some o => have := F.keep _ _ q; rw [hb] at this; cases this
theorem pickR {g h : Heap} {L : Addr} {a b : Addr × Obj} {rest : List (Addr × Obj)} (N : News g L h (a :: b :: rest)) : ∃ R, R = rest ∧ News g L h (b :: R) := ⟨rest, rfl, fun q hq => N q (.tail _ hq)⟩
theorem gsOf_len (ns : List Int) : (gsOf ns).length ≤ 11 := by
  unfold gsOf
  rw [List.length_map, List.length_append, List.length_take]
  show 5 + _ ≤ 11
  omega
theorem pickGs {g : Heap} {nx : List (Addr × Obj)} {vg : List Value} {ns : List Int} (r : RowsO g nx vg ((gsOf ns).map rowOf)) : ∃ gs, RowsO g nx vg (gs.map rowOf) ∧ GuestsOk gs ∧ gs.length ≤ 11 ∧ gs = gsOf ns := ⟨_, r, gsOf_ok ns, gsOf_len ns, rfl⟩
theorem ne_tail {a b n2 : List (Addr × Obj)} {d : Addr} {o : Obj} (h : n2 = a ++ b) (ha : ∀ p ∈ a, p.1 ≠ d) (hb : ∀ q ∈ b, q.1 ≠ (d, o).1) : ∀ p ∈ n2, p.1 ≠ d := fun p hp => by
  rw [h] at hp
  exact (List.mem_append.mp hp).elim (ha p) (hb p)
theorem regroup {g h : Heap} {L : Addr} {R base ex : List (Addr × Obj)} {a b : Addr × Obj} (e : R = base) (N : News g L h (a :: b :: (base ++ ex))) : News g L h (a :: b :: (R ++ ex)) := by rw [e]; exact N
theorem pickAll {g h : Heap} {L : Addr} {news : List (Addr × Obj)} (N : News g L h news) : ∃ R, R = news ∧ News g L h R := ⟨news, rfl, N⟩
section
variable {M : Model} {A : Around} {E : Value → Shared → Prop} {s : Shared} {h₀ : Heap} {L C : Addr} {m m₂ : Str → Option Value} {scope : Scope} {cl : List (Str × Addr)} {env : Env} {x : Str} {v : Value} {Q : Unit → Shared → Prop}
/-- a name of a comprehension's own, stored -/
theorem store_comp {I : Addr × Obj} {oC : Obj} {rest : List (Addr × Obj)} (F : Fr h₀ L s.heap m) (N : News h₀ L s.heap (I :: (C, oC) :: rest)) (hoC : NsObj oC m₂) (hx : scope.names.lookup x = some .local) (hk : scope.kind = .function) (n1 : I.1 ≠ C) (n2 : ∀ q ∈ rest, q.1 ≠ C)
    (h : ∀ h' oC', Fr h₀ L h' m → News h₀ L h' (I :: (C, oC') :: rest) → NsObj oC' (fun z => if z = x then some v else m₂ z) → Q () { s with heap := h', toks := s.toks + 1 }) : wpAny M A (storeName (compEnvC scope cl C env) x v) Q E s := by
  have nC := N (C, oC) (.tail _ (.head _))
  refine wpAny_storeName_local (lookup_relabel_local hx) (hoC.ns nC.1) (fun h' hn hs => ?_) (by show (scope.kind == .class || (scope.kind == .module && _)) = false; rw [hk]; rfl)
  obtain ⟨oC', heC, hoC'⟩ := ns_obj hn
  refine h h' oC' (F.change hs nC.2.1 nC.2.2) (fun q hq => ?_) hoC'
  rcases List.mem_cons.mp hq with rfl | hq
  · exact ⟨hs.extBut _ _ n1 (N _ (.head _)).1, (N _ (.head _)).2⟩
  rcases List.mem_cons.mp hq with rfl | hq
  · exact ⟨heC, nC.2⟩
  · exact ⟨hs.extBut _ _ (n2 q hq) (N q (.tail _ (.tail _ hq))).1, (N q (.tail _ (.tail _ hq))).2⟩
/-- a cell of a comprehension's own, stored -/
theorem store_compK {K : Addr} {oK : Obj} {v₀ : Option Value} {a b c : Addr × Obj} {rest : List (Addr × Obj)} (F : Fr h₀ L s.heap m) (N : News h₀ L s.heap (a :: b :: c :: (K, oK) :: rest)) (hd : oK.data = .cell v₀) (hk : (compEnvC scope cl C env).scope.kind = .function) (hx : (compEnvC scope cl C env).kindOf x = some .cell) (hc : cl.lookup x = some K)
    (n1 : a.1 ≠ K) (n2 : b.1 ≠ K) (n3 : c.1 ≠ K) (n4 : ∀ q ∈ rest, q.1 ≠ K)
    (h : ∀ h' oK', Fr h₀ L h' m → News h₀ L h' (a :: b :: c :: (K, oK') :: rest) → oK'.data = .cell (some v) → Q () { s with heap := h' }) : wpAny M A (storeName (compEnvC scope cl C env) x v) Q E s := by
  have nK := N (K, oK) (.tail _ (.tail _ (.tail _ (.head _))))
  refine wpAny_storeName_cell hk hx hc ⟨oK, nK.1, hd⟩ fun h' hv hs => ?_
  obtain ⟨oK', ho', hd'⟩ := hv
  have old : ∀ q ∈ (a :: b :: c :: (K, oK) :: rest), q.1 ≠ K → h'.get? q.1 = some q.2 ∧ q.1 ≠ L ∧ h₀.get? q.1 = none := fun q hq z => ⟨(hs.2 _ z).trans (N q hq).1, (N q hq).2⟩
  refine h h' oK' ⟨F.ns.sameBut hs (Ne.symm nK.2.1), fun b ob e => (hs.2 b (fun q => by rw [q, nK.2.2] at e; cases e)).trans (F.keep b ob e), F.above⟩ (fun q hq => ?_) hd'
  rcases List.mem_cons.mp hq with rfl | hq
  · exact old _ (.head _) n1
  rcases List.mem_cons.mp hq with rfl | hq
  · exact old _ (.tail _ (.head _)) n2
  rcases List.mem_cons.mp hq with rfl | hq
  · exact old _ (.tail _ (.tail _ (.head _))) n3
  rcases List.mem_cons.mp hq with rfl | hq
  · exact ⟨ho', nK.2⟩
  · exact old _ (.tail _ (.tail _ (.tail _ (.tail _ hq)))) (n4 q hq)
end
theorem crowd_lower : ∀ k < 4, (Txt.lower (nameOf k) == Str.ofString "a") = (k / 2 == 0) ∧ (Txt.lower (nameOf k) == Str.ofString "ab") = (k / 2 == 1) := by decide +kernel
theorem crowd_snoc (gs : List Guest) (c i : Nat) {gn gi gj : Nat} (h : gs[i]? = some (gn, gi, gj)) : (crowd (gs.take (i + 1)) c).map (fun q => txt q.1 q.2) = (crowd (gs.take i) c).map (fun q => txt q.1 q.2) ++ (if gn / 2 == c then [txt gi gj] else []) := by
  rw [List.take_add_one, h]
  unfold crowd
  rw [Option.toList, List.filter_append, List.map_append, List.map_append]
  congr 1
  rw [List.filter_cons, List.filter_nil]
  dsimp only
  split <;> rfl
theorem crowds_two {gs : List Guest} {more : List (Addr × Obj)} {ys : List Value} (hl : ys.length = 2) (hys : ∀ (c : Nat) (v : Value), ys[c]? = some v → ∃ b vs, v = .ref b ∧ (b, lst vs) ∈ more ∧ StrsAre vs ((crowd gs c).map fun q => txt q.1 q.2)) :
    ∃ b0 b1 v0 v1, ys = [.ref b0, .ref b1] ∧ (b0, lst v0) ∈ more ∧ (b1, lst v1) ∈ more ∧ StrsAre v0 ((crowd gs 0).map fun q => txt q.1 q.2) ∧ StrsAre v1 ((crowd gs 1).map fun q => txt q.1 q.2) := by
  obtain ⟨x, y, rfl⟩ := two_of hl
  obtain ⟨b0, v0, e0, m0, s0⟩ := hys 0 x rfl
  obtain ⟨b1, v1, e1, m1, s1⟩ := hys 1 y rfl
  exact ⟨b0, b1, v0, v1, by rw [e0, e1], m0, m1, s0, s1⟩
theorem tabIn {g h : Heap} {P : Params} {L tx dx lm : Addr} {m : Str → Option Value} {news nx : List (Addr × Obj)} {tk nm : Nat} {vm : List Value} {gs : List Guest} (F : Fr g L h m) (N : News g L h news) (h1 : (tx, instObj 200 dx) ∈ news) (h2 : (dx, hdDict P tk lm) ∈ news) (h3 : (lm, listOf vm.toArray nm) ∈ news) (hr : RowsO g nx vm (gs.map rowOf)) (hs : ∀ q ∈ nx, q ∈ news) (hg : GuestsOk gs) (hl : gs.length ≤ 11) : TableAt h P tx lm (gs.map rowOf) :=
  ⟨dx, tk, vm, nm, (N _ h1).1, (N _ h2).1, (N _ h3).1, RowsO.at F N hs hg hr, by rw [List.length_map]; omega⟩
/-- two lists of data compared, by what the heap reads -/
theorem ne_datH {prog : Program} {w : World} {A : Around} {E : Value → Shared → Prop} {s : Shared} {a b : Addr} {oa ob : Obj} {vs ws : List Value} {ka kb : Nat} {ds es : List Dat} {as bs : List Addr} {Q : Value → Shared → Prop}
    (ha : s.heap.get? a = some oa) (ca : oa.cls = .type "list") (da : oa.data = .seq vs.toArray ka) (ra : ReadsAll s.heap vs (kqdPs ds) as) (hb : s.heap.get? b = some ob) (cb : ob.cls = .type "list") (db : ob.data = .seq ws.toArray kb) (rb : ReadsAll s.heap ws (kqdPs es) bs)
    (o1 : ∀ d ∈ ds, kqdOk 8 d = true) (o2 : ∀ d ∈ es, kqdOk 8 d = true) (hu : A.units + 64 < cLine) (he : ds = es) (h : Q (.bool false) s) : wpAny (model prog w) A (compareOp .NotEq (.ref a) (.ref b)) Q E s := by
  have la := kqd_lay 9 (.list ds) (okL o1)
  have lb := kqd_lay 9 (.list es) (okL o2)
  rw [kqdP] at la lb
  have e : PyData.eqv (.list (kqdPs ds)) (.list (kqdPs es)) = true := by
    have q := kqd_eqv 9 (.list ds) (.list es) 9 (okL o1) (okL o2)
    rw [kqdP, kqdP, Dat.list.injEq] at q
    exact q.mpr he
  refine ne_dataH (reads_list_at ha ca da (by simpa using ra)) (reads_list_at hb cb db (by simpa using rb)) ?_ ?_ hu (by rw [e]; exact h)
  · unfold SeqAt.shaped; rw [la.1, Bool.true_and]; exact decide_eq_true (Nat.le_trans la.2 (by decide))
  · unfold SeqAt.shaped; rw [lb.1, Bool.true_and]; exact decide_eq_true (Nat.le_trans lb.2 (by decide))
theorem reads_strs {h : Heap} {vs : List Value} {xs : List Str} (x : StrsAre vs xs) : ∃ as, ReadsAll h vs (kqdPs (xs.map Dat.str)) as := by
  induction x with
  | nil => exact ⟨_, ReadsAll.nil⟩
  | cons y t _ ih =>
    obtain ⟨as, q⟩ := ih
    exact ⟨_, ReadsAll.cons (Reads.str _ _) q⟩
theorem txtD_ok {l : List (Nat × Nat)} (h : ∀ q ∈ l, q.1 < 5 ∧ q.2 < 5) : kqdOk 8 (.list ((l.map fun q => txt q.1 q.2).map Dat.str)) = true := by
  show List.all _ (kqdOk 7) = true
  refine List.all_eq_true.mpr fun d hd => ?_
  obtain ⟨x, hx, rfl⟩ := List.mem_map.mp hd
  obtain ⟨q, hq, rfl⟩ := List.mem_map.mp hx
  have key : ∀ a < 5, ∀ b < 5, kqdOk 7 (.str (txt a b)) = true := by decide +kernel
  exact key _ (h q hq).1 _ (h q hq).2
theorem two_reads {g h : Heap} {L a b : Addr} {news : List (Addr × Obj)} {va vb : List Value} {xa xb : List Str} (N : News g L h news) (ma : (a, lst va) ∈ news) (mb : (b, lst vb) ∈ news) (sa : StrsAre va xa) (sb : StrsAre vb xb) :
    ∃ as, ReadsAll h [.ref a, .ref b] (kqdPs [.list (xa.map Dat.str), .list (xb.map Dat.str)]) as := by
  obtain ⟨as, ra⟩ := reads_strs (h := h) sa
  obtain ⟨bs, rb⟩ := reads_strs (h := h) sb
  exact ⟨_, ReadsAll.cons (reads_list_at (N _ ma).1 rfl rfl (by simpa using ra)) (ReadsAll.cons (reads_list_at (N _ mb).1 rfl rfl (by simpa using rb)) ReadsAll.nil)⟩
noncomputable def MC (D : Addr) (u : Str → Option Value) : Str → Option Value := fun z => if z = Str.ofString "crowds" then some (.ref D) else u z
theorem mc_eq {D : Addr} {m : Str → Option Value} (h : m (Str.ofString "crowds") = some (.ref D)) : m = MC D m := by
  funext z
  unfold MC
  by_cases a : z = Str.ofString "crowds"
  · rw [if_pos a, a]; exact h
  · rw [if_neg a]
theorem pick3 {g h : Heap} {L T a b : Addr} {ot oa ob : Obj} {rest : List (Addr × Obj)} (N : News g L h ((T, ot) :: (a, oa) :: (b, ob) :: rest)) : ∃ T' a' b' R, T' = T ∧ a' = a ∧ b' = b ∧ R = (T, ot) :: (a, oa) :: (b, ob) :: rest ∧ News g L h R := ⟨T, a, b, _, rfl, rfl, rfl, rfl, N⟩
theorem elt_end {g h : Heap} {L I C D r : Addr} {m : Str → Option Value} {s₁ : Shared} {oI oC oD o : Obj} {ex Rb tl : List (Addr × Obj)} {S : List (Addr × Obj) → Prop} {R : Value → List (Addr × Obj) → Prop} {tk : Nat} (F : Fr g L h m) (N : News g L h ((r, o) :: (I, oI) :: (C, oC) :: (D, oD) :: tl)) (htl : ∀ q ∈ ex ++ Rb, q ∈ tl) (o1 : Off1 r ((I, oI) :: (C, oC) :: (D, oD) :: tl)) (off : Off3 I C D (ex ++ Rb)) (hS : S ((r, o) :: (ex ++ Rb))) (hR : R (.ref r) [(r, o)]) :
    CompEnd g L m s₁ I oI C oC D oD S (fun y news' => ∃ more, news' = more ++ (ex ++ Rb) ∧ R y more) (.ref r) { s₁ with heap := h, toks := tk } := by
  refine CompEnd.intro F N ((r, o) :: (ex ++ Rb)) (fun q hq => ?_) ⟨⟨fun e => o1.1 e.symm, fun e => o1.2.1 e.symm, fun e => o1.2.2.1 e.symm⟩, off⟩ hS ⟨[(r, o)], rfl, hR⟩
  rcases List.mem_cons.mp hq with rfl | hq
  · exact .tail _ (.head _)
  rcases List.mem_cons.mp hq with rfl | hq
  · exact .tail _ (.tail _ (.head _))
  rcases List.mem_cons.mp hq with rfl | hq
  · exact .tail _ (.tail _ (.tail _ (.head _)))
  rcases List.mem_cons.mp hq with rfl | hq
  · exact .head _
  · exact .tail _ (.tail _ (.tail _ (.tail _ (htl q hq))))
theorem swap3 {g h : Heap} {L : Addr} {a b c : Addr × Obj} {ex base : List (Addr × Obj)} (N : News g L h (a :: b :: c :: (ex ++ base))) : News g L h (a :: b :: c :: (base ++ ex)) := fun q hq => N q (by
  simp only [List.mem_cons, List.mem_append] at hq ⊢
  rcases hq with h | h | h | h | h <;> simp [h])
theorem lower_two : ∀ k < 4, (Txt.lower (nameOf k) == Txt.lower (Str.ofString "a")) = (k / 2 == 0) ∧ (Txt.lower (nameOf k) == Txt.lower (Str.ofString "ab")) = (k / 2 == 1) ∧ (Txt.lower (nameOf k) == Txt.lower (Str.ofString "A")) = (k / 2 == 0) ∧ (Txt.lower (nameOf k) == Txt.lower (Str.ofString "AB")) = (k / 2 == 1) := by decide +kernel
theorem tail_left {R base ex tl : List (Addr × Obj)} {q : Addr × Obj} (e : R = base) (hq : q ∈ R) (ht : tl = base ++ ex := by rfl) : q ∈ tl := by rw [ht, ← e]; exact List.mem_append_left _ hq
theorem tail_right {R base ex tl : List (Addr × Obj)} {q : Addr × Obj} (_e : R = base) (hq : q ∈ ex) (ht : tl = base ++ ex := by rfl) : q ∈ tl := by rw [ht]; exact List.mem_append_right _ hq

theorem len_lst {prog : Program} {w : World} {A : Around} {E : Value → Shared → Prop} {s : Shared} {l : Addr} {vs : List Value} {k : Nat} {Q : Value → Shared → Prop} (hl : s.heap.get? l = some (lst vs)) (hk : vs.length = k) (hb : k ≤ 1000)
    (h : Q (.int ((k : Nat) : Int) (s.toks + 1)) { s with toks := s.toks + 1 + 1 }) : wpAny (model prog w) A (call (.builtin "len") [.ref l]) Q E s := by
  subst hk
  exact call_len_list (items := vs.toArray) ⟨_, hl, rfl, _, rfl⟩ (by rw [List.size_toArray]; omega) h
theorem elt_same {g h : Heap} {L I C D : Addr} {m : Str → Option Value} {s₁ : Shared} {oI oC oD : Obj} {ex Rb tl : List (Addr × Obj)} {S : List (Addr × Obj) → Prop} {R : Value → List (Addr × Obj) → Prop} {tk : Nat} {v : Value} (F : Fr g L h m) (N : News g L h ((I, oI) :: (C, oC) :: (D, oD) :: tl)) (htl : ∀ q ∈ ex ++ Rb, q ∈ tl) (off : Off3 I C D (ex ++ Rb)) (hS : S (ex ++ Rb)) (hR : R v []) :
    CompEnd g L m s₁ I oI C oC D oD S (fun y news' => ∃ more, news' = more ++ (ex ++ Rb) ∧ R y more) v { s₁ with heap := h, toks := tk } := by
  refine CompEnd.intro F N (ex ++ Rb) (fun q hq => ?_) off hS ⟨[], rfl, hR⟩
  rcases List.mem_cons.mp hq with rfl | hq
  · exact .head _
  rcases List.mem_cons.mp hq with rfl | hq
  · exact .tail _ (.head _)
  rcases List.mem_cons.mp hq with rfl | hq
  · exact .tail _ (.tail _ (.head _))
  · exact .tail _ (.tail _ (.tail _ (htl q hq)))
theorem two_intsF {f : Nat → Nat} {ys : List Value} (hl : ys.length = 2) (h : ∀ (c : Nat) (v : Value), ys[c]? = some v → ∃ t, v = .int ((f c : Nat) : Int) t) : ∃ t0 t1, ys = [.int ((f 0 : Nat) : Int) t0, .int ((f 1 : Nat) : Int) t1] := by
  obtain ⟨x, y, rfl⟩ := two_of hl
  obtain ⟨t0, e0⟩ := h 0 x rfl
  obtain ⟨t1, e1⟩ := h 1 y rfl
  exact ⟨t0, t1, by rw [e0, e1]⟩
theorem two_ints {gs : List Guest} {ys : List Value} (hl : ys.length = 2) (h : ∀ (c : Nat) (v : Value), ys[c]? = some v → ∃ t, v = .int ((cP c gs : Nat) : Int) t) : ∃ t0 t1, ys = [.int ((cP 0 gs : Nat) : Int) t0, .int ((cP 1 gs : Nat) : Int) t1] := two_intsF (f := fun c => cP c gs) hl h
theorem cP_len (gs : List Guest) (c : Nat) : cP c gs ≤ gs.length := List.countP_le_length
/-- the pairs found so far, as the heap holds them -/
structure RestsSt (gs : List Guest) (rs : List Value) (ps : List (Nat × Nat)) (ex : List (Addr × Obj)) (Pd : Nat × Nat → Prop) (k : Nat) : Prop where
  len : rs.length = ps.length
  item : ∀ (c : Nat) (v : Value), rs[c]? = some v → ∃ r q t u n, v = .ref r ∧ ps[c]? = some q ∧ (r, listOf #[.int ((q.1 : Nat) : Int) t, .int ((q.2 : Nat) : Int) u] n) ∈ ex
  sound : ∀ q ∈ ps, IsRest gs q
  full : ∀ q, IsRest gs q → Pd q → q ∈ ps
  small : ps.length ≤ k
theorem RestsSt.start {gs : List Guest} {Pd : Nat × Nat → Prop} (h : ∀ q, ¬ Pd q) : RestsSt gs [] [] [] Pd 0 := ⟨rfl, fun c v h => by simp at h, (fun _ h => nomatch h), fun q _ p => absurd p (h q), Nat.le_refl _⟩
theorem RestsSt.conv {gs : List Guest} {rs : List Value} {ps : List (Nat × Nat)} {ex : List (Addr × Obj)} {Pd Pd' : Nat × Nat → Prop} {k k' : Nat} (R : RestsSt gs rs ps ex Pd k) (h : ∀ q, IsRest gs q → Pd' q → Pd q) (hk : k ≤ k') : RestsSt gs rs ps ex Pd' k' :=
  ⟨R.len, R.item, R.sound, fun q r p => R.full q r (h q r p), Nat.le_trans R.small hk⟩
theorem RestsSt.skip {gs : List Guest} {rs : List Value} {ps : List (Nat × Nat)} {ex : List (Addr × Obj)} {Pd Pd' : Nat × Nat → Prop} {k : Nat} {q0 : Nat × Nat} (R : RestsSt gs rs ps ex Pd k) (hn : ¬ IsRest gs q0) (h : ∀ q, Pd' q → Pd q ∨ q = q0) : RestsSt gs rs ps ex Pd' (k + 1) :=
  R.conv (fun q r p => (h q p).resolve_right fun e => hn (e ▸ r)) (Nat.le_succ _)
theorem RestsSt.snoc {gs : List Guest} {rs : List Value} {ps : List (Nat × Nat)} {ex ex' : List (Addr × Obj)} {Pd Pd' : Nat × Nat → Prop} {k : Nat} {b : Addr} {x y n : Nat} {t u : Tok} (R : RestsSt gs rs ps ex Pd k) (hn : IsRest gs (x, y)) (h : ∀ q, Pd' q → Pd q ∨ q = (x, y)) (hs : ∀ q ∈ ex, q ∈ ex') (hb : (b, listOf #[.int ((x : Nat) : Int) t, .int ((y : Nat) : Int) u] n) ∈ ex') :
    RestsSt gs (rs ++ [.ref b]) (ps ++ [(x, y)]) ex' Pd' (k + 1) := by
  refine ⟨by simp [R.len], fun c v hc => ?_, fun q hq => ?_, fun q r p => ?_, by rw [List.length_append, List.length_singleton]; exact Nat.succ_le_succ R.small⟩
  · by_cases hci : c < rs.length
    · rw [List.getElem?_append_left hci] at hc
      obtain ⟨r, q, t, u, n, e, hq, hm⟩ := R.item c v hc
      exact ⟨r, q, t, u, n, e, by rw [List.getElem?_append_left (by rw [← R.len]; exact hci)]; exact hq, hs _ hm⟩
    · rw [List.getElem?_append_right (by omega)] at hc
      have e : c = rs.length := by
        have := (List.getElem?_eq_some_iff.mp hc).1
        simp at this; omega
      subst e
      rw [Nat.sub_self] at hc
      simp at hc
      refine ⟨b, (x, y), t, u, n, hc.symm, ?_, hb⟩
      rw [R.len, List.getElem?_append_right (Nat.le_refl _), Nat.sub_self]; rfl
  · rcases List.mem_append.mp hq with hq | hq
    · exact R.sound q hq
    · rw [List.mem_singleton.mp hq]; exact hn
  · rcases h q p with h | h
    · exact List.mem_append_left _ (R.full q r h)
    · exact List.mem_append_right _ (List.mem_singleton.mpr h)
noncomputable def MR (D W R : Addr) (u : Str → Option Value) : Str → Option Value := fun z => if z = Str.ofString "rests" then some (.ref R) else if z = Str.ofString "whole" then some (.ref W) else if z = Str.ofString "crowds" then some (.ref D) else u z
theorem mr_eq {D W R : Addr} {m : Str → Option Value} (h1 : m (Str.ofString "crowds") = some (.ref D)) (h2 : m (Str.ofString "whole") = some (.ref W)) (h3 : m (Str.ofString "rests") = some (.ref R)) : m = MR D W R m := by
  funext z
  unfold MR
  by_cases a : z = Str.ofString "rests"
  · rw [if_pos a, a]; exact h3
  · rw [if_neg a]
    by_cases b : z = Str.ofString "whole"
    · rw [if_pos b, b]; exact h2
    · rw [if_neg b]
      by_cases c : z = Str.ofString "crowds"
      · rw [if_pos c, c]; exact h1
      · rw [if_neg c]
theorem pickXY {g h : Heap} {L : Addr} {r p1 p2 p3 p4 p5 p6 p7 p8 p9 pa pb pc pd cy cx : Addr × Obj} {rest : List (Addr × Obj)} (N : News g L h (r :: p1 :: p2 :: p3 :: p4 :: p5 :: p6 :: p7 :: p8 :: p9 :: pa :: pb :: pc :: pd :: cy :: cx :: rest)) :
    ∃ Rf, Rf = p1 :: p5 :: p6 :: p7 :: p9 :: pa :: pb :: pc :: pd :: rest ∧ News g L h (cx :: cy :: r :: (Rf ++ [])) := ⟨_, rfl, fun q hq => N q (by
  simp only [List.append_nil, List.mem_cons] at hq ⊢
  rcases hq with h | h | h | h | h | h | h | h | h | h | h | h | h <;> simp [h])⟩
theorem whole_rest {gs : List Guest} {q : Nat × Nat} (h : IsRest gs q) : q.1 ≤ cP 0 gs ∧ q.2 ≤ cP 1 gs := by
  have a := come_le gs 0 q
  have b := come_le gs 1 q
  rw [h.1] at a
  rw [h.2] at b
  exact ⟨a, b⟩
theorem pick2 {g h : Heap} {L A B : Addr} {oa ob : Obj} {rest : List (Addr × Obj)} (N : News g L h ((A, oa) :: (B, ob) :: rest)) : ∃ A' B', A' = A ∧ B' = B ∧ News g L h ((A', oa) :: (B', ob) :: rest) := ⟨A, B, rfl, rfl, N⟩
theorem ne_tail2 {a b n2 : List (Addr × Obj)} {d : Addr} (h : n2 = a ++ b) (ha : ∀ p ∈ a, p.1 ≠ d) (hb : ∀ q ∈ b, @Ne Nat q.1 d) : ∀ p ∈ n2, p.1 ≠ d := fun p hp => by
  rw [h] at hp
  exact (List.mem_append.mp hp).elim (ha p) (hb p)
theorem range_up (n : Nat) : Builtin.Range.rangeSize 0 (((n : Nat) : Int) + 1) 1 = ((n + 1 : Nat) : Int) := by rw [rangeSize_nat]; congr 1
theorem range_low {n : Nat} (h : n ≤ 100) : Builtin.Range.small 0 (((n : Nat) : Int) + 1) 1 = true := small_one (by decide) (by decide) (by omega) (by omega)
theorem cell_ne {g h : Heap} {L c a : Addr} {oc : Obj} {v : Option Value} {vs : Array Value} {k : Nat} {news : List (Addr × Obj)} (N : News g L h news) (dc : oc.data = .cell v) (mc : (c, oc) ∈ news) (ma : (a, listOf vs k) ∈ news) : @Ne Nat a c := fun e => by
  have h1 := (N _ mc).1
  have h2 := (N _ ma).1
  dsimp only at h1 h2
  have e' : a = c := e
  rw [e', h1] at h2
  cases h2
  cases dc
theorem pickIn {g h : Heap} {L : Addr} {p1 p2 p3 p4 : Addr × Obj} {rest : List (Addr × Obj)} (N : News g L h (p1 :: p2 :: p3 :: p4 :: rest)) : ∃ R, R = rest ∧ News g L h (p1 :: p2 :: p3 :: p4 :: (R ++ [])) := ⟨rest, rfl, by rw [List.append_nil]; exact N⟩
theorem gsOf_cP (ns : List Int) : cP 0 (gsOf ns) ≤ 9 ∧ cP 1 (gsOf ns) ≤ 9 := by
  have key : ∀ c : Nat, List.countP (fun g : Guest => g.1 / 2 == c) ((List.take 6 ns).map guestOf) ≤ 6 := fun c => Nat.le_trans List.countP_le_length (by rw [List.length_map, List.length_take]; exact Nat.min_le_left _ _)
  have own0 : List.countP (fun g : Guest => g.1 / 2 == 0) (([1, 6, 8, 28, 83] : List Int).map guestOf) ≤ 3 := by decide +kernel
  have own1 : List.countP (fun g : Guest => g.1 / 2 == 1) (([1, 6, 8, 28, 83] : List Int).map guestOf) ≤ 3 := by decide +kernel
  have k0 := key 0
  have k1 := key 1
  unfold cP gsOf
  rw [List.map_append, List.countP_append, List.countP_append]
  omega

end

-- part C17b
section
theorem fresh_C17b : True := by w_top off; trivial
local macro_rules | `(tactic| walk_at "zz9") => `(tactic| fail)
local macro_rules | `(tactic| walk_at "zz9") => `(tactic| fail)
open LCg LCt
theorem rest_of {gs : List Guest} {i j : Nat} (h : [((come gs 0 (i, j) : Nat) : Int), ((come gs 1 (i, j) : Nat) : Int)] = [((i : Nat) : Int), ((j : Nat) : Int)]) : IsRest gs (i, j) := by
  simp only [List.cons.injEq, and_true] at h
  exact ⟨by have := h.1; show _ = i; omega, by have := h.2; show _ = j; omega⟩
theorem rest_not {gs : List Guest} {i j : Nat} (h : ¬ [((come gs 0 (i, j) : Nat) : Int), ((come gs 1 (i, j) : Nat) : Int)] = [((i : Nat) : Int), ((j : Nat) : Int)]) : ¬ IsRest gs (i, j) := fun r => h (by
  have a : come gs 0 (i, j) = i := r.1
  have b : come gs 1 (i, j) = j := r.2
  rw [a, b])
theorem rests_yes {g h : Heap} {L l' l2 D9 I16 I15 cx cy DR : Addr} {oN o2 o9 o16 o15 ox oy oR oy' oR' : Obj} {R26 tl ex2 : List (Addr × Obj)}
    (N : News g L h ((l', oN) :: (l2, o2) :: (D9, o9) :: (I16, o16) :: (I15, o15) :: (cx, ox) :: (cy, oy) :: (DR, oR) :: tl)) (ll : AllLt l' ((l2, o2) :: (D9, o9) :: (I16, o16) :: (I15, o15) :: (cx, ox) :: (cy, oy) :: (DR, oR) :: tl)) (ht : tl = R26 ++ ex2)
    (off : ∀ p ∈ (I15, o15) :: (cx, ox) :: (cy, oy') :: (DR, oR') :: (R26 ++ ex2), p.1 ≠ I16) (hex2 : ∀ q ∈ ex2, @Ne Nat q.1 I15 ∧ @Ne Nat q.1 cx ∧ @Ne Nat q.1 cy ∧ @Ne Nat q.1 DR ∧ ∀ p ∈ R26, @Ne Nat q.1 p.1) :
    News g L h ((I16, o16) :: (I15, o15) :: (cx, ox) :: (cy, oy) :: (DR, oR) :: (R26 ++ (ex2 ++ [(l', oN)]))) ∧ (∀ p ∈ (I15, o15) :: (cx, ox) :: (cy, oy) :: (DR, oR) :: (R26 ++ (ex2 ++ [(l', oN)])), p.1 ≠ I16) ∧
    ∀ q ∈ ex2 ++ [(l', oN)], @Ne Nat q.1 I15 ∧ @Ne Nat q.1 cx ∧ @Ne Nat q.1 cy ∧ @Ne Nat q.1 DR ∧ ∀ p ∈ R26, @Ne Nat q.1 p.1 := by
  subst ht
  have lt := allLt_mem ll
  refine ⟨fun q hq => N q ?_, fun q hq => ?_, fun q hq => ?_⟩
  · simp only [List.mem_cons, List.mem_append, List.not_mem_nil, or_false] at hq ⊢
    rcases hq with z | z | z | z | z | z | z | z <;> simp [z]
  · simp only [List.mem_cons, List.mem_append, List.not_mem_nil, or_false] at hq
    rcases hq with rfl | rfl | rfl | rfl | z | z | rfl
    · exact off (I15, o15) (.head _)
    · exact off (cx, ox) (.tail _ (.head _))
    · exact off (cy, oy') (.tail _ (.tail _ (.head _)))
    · exact off (DR, oR') (.tail _ (.tail _ (.tail _ (.head _))))
    · exact off q (.tail _ (.tail _ (.tail _ (.tail _ (List.mem_append_left _ z)))))
    · exact off q (.tail _ (.tail _ (.tail _ (.tail _ (List.mem_append_right _ z)))))
    · exact Nat.ne_of_gt (lt (I16, o16) (.tail _ (.tail _ (.head _))))
  · rcases List.mem_append.mp hq with hq | hq
    · exact hex2 q hq
    · rw [List.mem_singleton.mp hq]
      refine ⟨Nat.ne_of_gt (lt (I15, o15) ?_), Nat.ne_of_gt (lt (cx, ox) ?_), Nat.ne_of_gt (lt (cy, oy) ?_), Nat.ne_of_gt (lt (DR, oR) ?_), fun p hp => Nat.ne_of_gt (lt p ?_)⟩
      · exact .tail _ (.tail _ (.tail _ (.head _)))
      · exact .tail _ (.tail _ (.tail _ (.tail _ (.head _))))
      · exact .tail _ (.tail _ (.tail _ (.tail _ (.tail _ (.head _)))))
      · exact .tail _ (.tail _ (.tail _ (.tail _ (.tail _ (.tail _ (.head _))))))
      · exact .tail _ (.tail _ (.tail _ (.tail _ (.tail _ (.tail _ (.tail _ (List.mem_append_left _ hp)))))))
theorem rests_no {g h : Heap} {L l' D9 I16 I15 cx cy DR : Addr} {oN o9 o16 o15 ox oy oR oy' oR' : Obj} {R26 tl ex2 : List (Addr × Obj)}
    (N : News g L h ((l', oN) :: (D9, o9) :: (I16, o16) :: (I15, o15) :: (cx, ox) :: (cy, oy) :: (DR, oR) :: tl)) (ht : tl = R26 ++ ex2)
    (off : ∀ p ∈ (I15, o15) :: (cx, ox) :: (cy, oy') :: (DR, oR') :: (R26 ++ ex2), p.1 ≠ I16) :
    News g L h ((I16, o16) :: (I15, o15) :: (cx, ox) :: (cy, oy) :: (DR, oR) :: (R26 ++ ex2)) ∧ (∀ p ∈ (I15, o15) :: (cx, ox) :: (cy, oy) :: (DR, oR) :: (R26 ++ ex2), p.1 ≠ I16) := by
  subst ht
  refine ⟨fun q hq => N q (.tail _ (.tail _ hq)), fun q hq => ?_⟩
  simp only [List.mem_cons] at hq
  rcases hq with rfl | rfl | rfl | rfl | z
  · exact off (I15, o15) (.head _)
  · exact off (cx, ox) (.tail _ (.head _))
  · exact off (cy, oy') (.tail _ (.tail _ (.head _)))
  · exact off (DR, oR') (.tail _ (.tail _ (.tail _ (.head _))))
  · exact off q (.tail _ (.tail _ (.tail _ (.tail _ z))))
theorem rests_row {g h : Heap} {L I15 cx cy DR : Addr} {o15 ox oy oR ox' oy' oR' : Obj} {R26 Rf ex ex2 : List (Addr × Obj)} (e : R26 = Rf ++ ex)
    (N : News g L h ((I15, o15) :: (cx, ox) :: (cy, oy) :: (DR, oR) :: (R26 ++ ex2)))
    (off : ∀ p ∈ (cx, ox') :: (cy, oy') :: (DR, oR') :: (Rf ++ ex), p.1 ≠ I15) (hex : ∀ q ∈ ex, @Ne Nat q.1 cx ∧ @Ne Nat q.1 cy ∧ @Ne Nat q.1 DR ∧ ∀ p ∈ Rf, @Ne Nat q.1 p.1) (hex2 : ∀ q ∈ ex2, @Ne Nat q.1 I15 ∧ @Ne Nat q.1 cx ∧ @Ne Nat q.1 cy ∧ @Ne Nat q.1 DR ∧ ∀ p ∈ R26, @Ne Nat q.1 p.1) :
    News g L h ((I15, o15) :: (cx, ox) :: (cy, oy) :: (DR, oR) :: (Rf ++ (ex ++ ex2))) ∧ (∀ p ∈ (cx, ox) :: (cy, oy) :: (DR, oR) :: (Rf ++ (ex ++ ex2)), p.1 ≠ I15) ∧
    ∀ q ∈ ex ++ ex2, @Ne Nat q.1 cx ∧ @Ne Nat q.1 cy ∧ @Ne Nat q.1 DR ∧ ∀ p ∈ Rf, @Ne Nat q.1 p.1 := by
  subst e
  rw [List.append_assoc] at N
  refine ⟨N, fun q hq => ?_, fun q hq => ?_⟩
  · rw [← List.append_assoc] at hq
    simp only [List.mem_cons, List.mem_append (t := ex2)] at hq
    rcases hq with rfl | rfl | rfl | z | z
    · exact off (cx, ox') (.head _)
    · exact off (cy, oy') (.tail _ (.head _))
    · exact off (DR, oR') (.tail _ (.tail _ (.head _)))
    · exact off q (.tail _ (.tail _ (.tail _ z)))
    · exact (hex2 q z).1
  · rcases List.mem_append.mp hq with hq | hq
    · exact hex q hq
    · have := hex2 q hq
      exact ⟨this.2.1, this.2.2.1, this.2.2.2.1, fun p hp => this.2.2.2.2 p (List.mem_append_left _ hp)⟩
theorem pickEnd {g h : Heap} {L : Addr} {cx cy r p0 p1 p2 p3 p4 p5 p6 p7 p8 p9 pa pb : Addr × Obj} {Rf ex nx2 nx3 : List (Addr × Obj)} (N : News g L h (cx :: cy :: r :: (Rf ++ ex))) (e : Rf = p0 :: p1 :: p2 :: p3 :: p4 :: p5 :: p6 :: p7 :: p8 :: p9 :: pa :: pb :: nx2) (hx : nx3 = nx2 ++ ex) :
    News g L h (r :: p0 :: p4 :: p5 :: p6 :: p7 :: p8 :: p9 :: pa :: pb :: nx3) := fun q hq => N q (by
  subst e hx
  simp only [List.mem_cons, List.mem_append, List.cons_append] at hq ⊢
  rcases hq with z | z | z | z | z | z | z | z | z | z | z | z <;> simp [z])
theorem RestsSt.sub {gs : List Guest} {rs : List Value} {ps : List (Nat × Nat)} {ex ex' : List (Addr × Obj)} {Pd : Nat × Nat → Prop} {k : Nat} (R : RestsSt gs rs ps ex Pd k) (h : ∀ q ∈ ex, q ∈ ex') : RestsSt gs rs ps ex' Pd k :=
  ⟨R.len, fun c v hc => by obtain ⟨r, q, t, u, n, e, hq, hm⟩ := R.item c v hc; exact ⟨r, q, t, u, n, e, hq, h _ hm⟩, R.sound, R.full, R.small⟩
theorem tab_ne {g h : Heap} {L t a : Addr} {ps vs : Array Value} {k : Nat} {news : List (Addr × Obj)} (N : News g L h news) (mc : (t, tabObj ps) ∈ news) (ma : (a, listOf vs k) ∈ news) : @Ne Nat a t := fun e => by
  have h1 := (N _ mc).1
  have h2 := (N _ ma).1
  dsimp only at h1 h2
  have e' : a = t := e
  rw [e', h1] at h2
  cases h2
section
variable {prog : Program} {w : World} {A : Around} {h₀ : Heap} {L : Addr} {m : Str → Option Value} {env : Env} {ct elt : Expr} {x : Str} {scope : Scope} {cl : List (Str × Addr)} {s : Shared} {S : List (Addr × Obj) → Prop} {P : Nat → Value → Prop} {Fin : List Value → List (Addr × Obj) → Prop} {news : List (Addr × Obj)}
/-- a comprehension with a test: how many are kept -/
theorem rest_keep {n : Nat} (keep : Nat → Bool)
    (turn : ∀ i v I oI C oC D m₂ ys h tk (E' : Value → Shared → Prop), i < n → P i v → NsObj oC m₂ → m₂ x = some v → Fr h₀ L h m → News h₀ L h ((I, oI) :: (C, oC) :: (D, lst ys) :: news) → Off3 I C D news → ((@Ne Nat I C) ∧ (@Ne Nat I D) ∧ (@Ne Nat C D)) →
      wpAny (model prog w) A (isTrue ct (compEnvC scope cl C env) (eval ct (compEnvC scope cl C env))) (fun b s' => if b = true then wpAny (model prog w) A (eval elt (compEnvC scope cl C env)) (CompEnd h₀ L m { s with heap := h, toks := tk } I oI C oC D (lst ys) S (fun _ news' => news' = news ∧ true = keep i)) E' s'
        else CompEnd h₀ L m { s with heap := h, toks := tk } I oI C oC D (lst ys) S (fun _ news' => news' = news ∧ false = keep i) Value.none s') E' { s with heap := h, toks := tk })
    (fin : ∀ ys, ys.length = ((List.range n).filter keep).length → Fin ys news) : CompRestT prog w A h₀ L m env ct elt x scope cl s S P Fin n 0 [] news := by
  have key : ∀ (j i : Nat) (ys : List Value), i + j = n → ys.length = ((List.range i).filter keep).length → CompRestT prog w A h₀ L m env ct elt x scope cl s S P Fin j i ys news := by
    intro j
    induction j with
    | zero =>
      intro i ys hi hy
      have e : i = n := by omega
      subst e
      exact CompRestT.zero (fin ys hy)
    | succ j ih =>
      intro i ys hi hy
      refine CompRestT.succ ?_
      intro v I oI C oC D m₂ h tk E' hv hC hx F N off ne
      have hs : ∀ b, keep i = b → ((List.range (i + 1)).filter keep).length = ((List.range i).filter keep).length + (if b = true then 1 else 0) := by
        intro b hb
        rw [List.range_succ, List.filter_append, List.length_append]
        cases b <;> simp [hb]
      refine wpAny_mono (turn i v I oI C oC D m₂ ys h tk E' (by omega) hv hC hx F N off ne) (fun b s₂ hq => ?_) fun _ _ e => e
      cases b with
      | true =>
        simp only [if_true] at hq ⊢
        refine wpAny_mono hq (fun y s₃ hr => ?_) fun _ _ e => e
        obtain ⟨h', tk', nw, e, F', N', off', hS, hn, hb⟩ := hr
        rw [hn] at N' off' hS
        refine ⟨h', tk', news, e, F', N', off', hS, ih (i + 1) _ (by omega) ?_⟩
        rw [hs true hb.symm, List.length_append, hy]
        rfl
      | false =>
        simp only [Bool.false_eq_true, if_false] at hq ⊢
        obtain ⟨h', tk', nw, e, F', N', off', hS, hn, hb⟩ := hq
        rw [hn] at N' off' hS
        refine ⟨h', tk', news, e, F', N', off', hS, ih (i + 1) _ (by omega) ?_⟩
        rw [hs false hb.symm]
        simpa using hy
  exact key n 0 [] (by omega) rfl
end
theorem bits_count {n : Nat} (h : n ≤ 9) : ((List.range 4).filter fun k => decide (2 ^ k ≤ n)).length = bits n := by
  have key : ∀ n < 10, ((List.range 4).filter fun k => decide (2 ^ k ≤ n)).length = bits n := by decide +kernel
  exact key n (by omega)
theorem bits_le {n : Nat} (h : n ≤ 9) : bits n ≤ 4 := by
  have key : ∀ n < 10, bits n ≤ 4 := by decide +kernel
  exact key n (by omega)
theorem pow_yes {k n : Nat} (h : (2 : Int) ^ (0 + ((k : Nat) : Int)).toNat ≤ ((n : Nat) : Int)) : decide (2 ^ k ≤ n) = true := by
  refine decide_eq_true ?_
  have e : (0 + ((k : Nat) : Int)).toNat = k := by omega
  rw [e] at h
  exact_mod_cast h
theorem pow_no {k n : Nat} (h : ¬ (2 : Int) ^ (0 + ((k : Nat) : Int)).toNat ≤ ((n : Nat) : Int)) : decide (2 ^ k ≤ n) = false := by
  refine decide_eq_false fun q => h ?_
  have e : (0 + ((k : Nat) : Int)).toNat = k := by omega
  rw [e]
  exact_mod_cast q

end

-- part C17c
section
theorem fresh_C17c : True := by w_top off; trivial
local macro_rules | `(tactic| walk_at "zz9") => `(tactic| fail)
local macro_rules | `(tactic| walk_at "zz9") => `(tactic| fail)
local macro_rules | `(tactic| walk_at "zz9") => `(tactic| fail)
local macro_rules | `(tactic| walk_at "zz9") => `(tactic| fail)
open LCg LCt
theorem hide_fr {h₀ h : Heap} {L : Addr} {m : Str → Option Value} {adr : List Addr} (F : Fr h₀ L h m) (ha : ∀ a ∈ adr, h₀.get? a = none ∧ a ≠ L) : Fr h₀ L (hideAll h adr) m := fr_butL F (fun _ _ hb e => hideAll_get _ e hb) ha
theorem hide_news {h₀ h : Heap} {L : Addr} {adr : List Addr} {news : List (Addr × Obj)} (N : News h₀ L h news) (hn : ∀ q ∈ news, q.1 ∉ adr) : News h₀ L (hideAll h adr) news := fun q hq => ⟨hideAll_get _ (N q hq).1 (hn q hq), (N q hq).2⟩
theorem fresh_ge {h₀ h : Heap} {L b : Addr} {m : Str → Option Value} (F : Fr h₀ L h m) (hb : @LE.le Nat _ h.objs.size b) : b ≠ L ∧ h₀.get? b = none := by
  refine ⟨fun e => ?_, ?_⟩
  · have := F.ns.lt
    exact absurd (Nat.lt_of_lt_of_le this hb) (e ▸ Nat.lt_irrefl _)
  · cases q : h₀.get? b with
    | none => rfl
    | some o => exact absurd (Nat.lt_of_lt_of_le (Heap.lt_size (F.keep _ _ q)) hb) (Nat.lt_irrefl _)
section
variable {w : World} {p : Program} {loose : List Str} {mean : ExcName → Option Value} {mg mb : Str → Option Value}
    {dp un : Nat} {gd : Option (List Code)} {cn : Str} {cs : Scope} {a : Addr} {ccd : Value} {cl : List (Str × Addr)} {outer : List Env} {A₀ : Around} {base h₀ : Heap} {L : Addr} {m : Str → Option Value} {s : Shared}
    {Q E : Value → Shared → Prop} {kp nx : List (Addr × Obj)} {tx dx lm lk se lo hi : Addr} {tk nm nl n1 n2 n3 : Nat} {vm : List Value} {gs : List Guest} {t1 t2 t3 t4 : Tok}
theorem law_rest_f (B : Below A₀ base outer h₀) (F : Fr h₀ L s.heap m) (X : (hd.heap_39 w.params).In h₀) (T : Top p loose mean mg mb h₀) (hk : cs.kind = .function) (hdp : dp < 700) (hun : un < 3000 + 3 * dp)
    (N : News h₀ L s.heap ((lk, listOf #[] nl) :: (218, tabObj #[]) :: kp)) (hkp : ∀ q ∈ kp, @Ne Nat q.1 lk ∧ @Ne Nat q.1 218) (l218 : @LT.lt Nat _ 218 lk)
    (m1 : (tx, instObj 200 dx) ∈ kp) (m2 : (dx, hdDict w.params tk lm) ∈ kp) (m3 : (lm, listOf vm.toArray nm) ∈ kp) (hr : RowsO h₀ nx vm (gs.map rowOf)) (hs : ∀ q ∈ nx, q ∈ kp) (hg : GuestsOk gs) (hl : gs.length ≤ 11)
    (mse : (se, listOf #[] n1) ∈ kp) (mlo : (lo, listOf #[.int 0 t1, .int 0 t2] n2) ∈ kp) (mhi : (hi, listOf #[.int ((cP 0 gs : Nat) : Int) t3, .int ((cP 1 gs : Nat) : Int) t4] n3) ∈ kp)
    (hC : CodeHd h₀ 220 218) (h90 : cP 0 gs ≤ 9) (h91 : cP 1 gs ≤ 9)
    (h : ∀ (r : Addr) (h' : Heap) (tk' : Nat) (vl' : List Value) (nl' : Nat) (o : Obj) (c' : Addr) (oc : Obj) (vsc : Array Value) (tq : Tok) (q : Nat × Nat), Fr h₀ L h' m → News h₀ L h' ((r, o) :: (lk, listOf vl'.toArray nl') :: (218, tabObj (psOf c')) :: (c', oc) :: kp) →
      (∀ q ∈ kp, @LT.lt Nat _ q.1 c') → @LT.lt Nat _ 218 c' → oc.data = .fields vsc → vsc[1]? = some (.str (Str.ofString "_law_rest.<locals>.looked") tq) → vl'.length ≤ bits (cP 0 gs) * (bits (cP 1 gs) + 1) + bits (cP 1 gs) → IsPair o q → IsRest gs q → Q (.ref r) { s with heap := h', toks := tk' }) :
    wpAny (model PySem.Challenge.rw_ph0161_01.row.prog w) (ktrTop dp un gd cn cs L a ccd cl outer) (call (.ref 221) [.ref tx, .ref lk, .ref se, .ref lo, .ref hi, .bool false] []) Q E s := by
  have ha : ∀ a ∈ [lk, 218], h₀.get? a = none ∧ a ≠ L := fun a ha => by
    simp only [List.mem_cons, List.not_mem_nil, or_false] at ha
    rcases ha with rfl | rfl
    · exact ⟨(N _ (.head _)).2.2, (N _ (.head _)).2.1⟩
    · exact ⟨(N _ (.tail _ (.head _))).2.2, (N _ (.tail _ (.head _))).2.1⟩
  have hoff : ∀ q ∈ kp, q.1 ∉ [lk, 218] := fun q hq e => by
    simp only [List.mem_cons, List.not_mem_nil, or_false] at e
    exact e.elim (hkp q hq).1 (hkp q hq).2
  have Fh := hide_fr F ha
  have Nh : News h₀ L (hideAll s.heap [lk, 218]) kp := hide_news (fun q hq => N q (.tail _ (.tail _ hq))) hoff
  refine rest_1f (rest_0f (rest_zero (D := 710) (by decide)) (by decide : 705 + 5 ≤ 710) (by decide) hg) (by decide : 700 + 5 ≤ 705) (by decide) hg dp un gd cn cs a ccd cl outer A₀ base h₀ L m s Q E tx lm lk se lo hi [] [] (0, 0) (cP 0 gs, cP 1 gs) [] nl t1 t2 t3 t4
    B F X T hk hdp hun ha (tabIn Fh Nh m1 m2 m3 hr hs hg hl) (hC.keeps Fh.keep) ⟨_, (Nh _ mse).1, rfl, _, rfl⟩ .nil rfl (fun i hi => nomatch hi) ⟨_, (Nh _ mlo).1, rfl, _, rfl⟩ (by decide) (by decide) ⟨_, (Nh _ mhi).1, rfl, _, rfl⟩ h90 h91 (N _ (.head _)).1 (by decide) (N _ (.tail _ (.head _))).1 l218 ?_
  intro r h' tk' vl' nl' o c' oc vsc tq kb h218 hc' hoc hvs hle hlk hlen hro hpo hrr
  obtain ⟨x, y, e1, ex, ey, ef0, ef1, hcnt⟩ := rest_outer (come_mono gs) false (n0 := cP 0 gs) (n1 := cP 1 gs) (come_le gs 0) (come_le gs 1) (by omega) (by omega)
  rw [e1] at hpo
  have lt0 : ∀ q ∈ (lk, listOf #[] nl) :: (218, tabObj #[]) :: kp, @LT.lt Nat _ q.1 c' := fun q hq => Nat.lt_of_lt_of_le (Heap.lt_size (N q hq).1) hle
  refine h r h' tk' vl' nl' o c' oc vsc tq (x, y) (fr_butL F kb ha) (fun q hq => ?_) (fun q hq => lt0 q (.tail _ (.tail _ hq))) (lt0 _ (.tail _ (.head _))) hoc hvs (by rw [hlen, List.length_nil, Nat.zero_add]; exact hcnt) hpo ⟨ef0, ef1⟩
  rcases List.mem_cons.mp hq with rfl | hq
  · rcases hrr with rfl | hrr
    · exact ⟨hro, (N _ (.tail _ (.tail _ mse))).2⟩
    · exact ⟨hro, fresh_ge F hrr⟩
  rcases List.mem_cons.mp hq with rfl | hq
  · exact ⟨hlk, (N _ (.head _)).2⟩
  rcases List.mem_cons.mp hq with rfl | hq
  · exact ⟨h218, (N _ (.tail _ (.head _))).2⟩
  rcases List.mem_cons.mp hq with rfl | hq
  · exact ⟨hc', fresh_ge F hle⟩
  · exact ⟨kb _ _ (hoff q hq) (N q (.tail _ (.tail _ hq))).1, (N q (.tail _ (.tail _ hq))).2⟩
theorem law_rest_t {c' : Addr} {oc : Obj} {vsc : Array Value} {tq : Tok} (B : Below A₀ base outer h₀) (F : Fr h₀ L s.heap m) (X : (hd.heap_39 w.params).In h₀) (T : Top p loose mean mg mb h₀) (hk : cs.kind = .function) (hdp : dp < 700) (hun : un < 3000 + 3 * dp)
    (N : News h₀ L s.heap ((lk, listOf #[] nl) :: (218, tabObj (psOf c')) :: kp)) (hkp : ∀ q ∈ kp, @Ne Nat q.1 lk ∧ @Ne Nat q.1 218) (l218 : @LT.lt Nat _ 218 lk)
    (m1 : (tx, instObj 200 dx) ∈ kp) (m2 : (dx, hdDict w.params tk lm) ∈ kp) (m3 : (lm, listOf vm.toArray nm) ∈ kp) (hr : RowsO h₀ nx vm (gs.map rowOf)) (hs : ∀ q ∈ nx, q ∈ kp) (hg : GuestsOk gs) (hl : gs.length ≤ 11)
    (mse : (se, listOf #[] n1) ∈ kp) (mlo : (lo, listOf #[.int 0 t1, .int 0 t2] n2) ∈ kp) (mhi : (hi, listOf #[.int ((cP 0 gs : Nat) : Int) t3, .int ((cP 1 gs : Nat) : Int) t4] n3) ∈ kp)
    (mc : (c', oc) ∈ kp) (hoc : oc.data = .fields vsc) (hvs : vsc[1]? = some (.str (Str.ofString "_law_rest.<locals>.looked") tq))
    (hC : CodeHd h₀ 220 218) (h90 : cP 0 gs ≤ 9) (h91 : cP 1 gs ≤ 9)
    (h : ∀ (r : Addr) (h' : Heap) (tk' : Nat) (vl' : List Value) (nl' : Nat) (o : Obj) (q : Nat × Nat), Fr h₀ L h' m → News h₀ L h' ((r, o) :: (lk, listOf vl'.toArray nl') :: (218, tabObj (psOf c')) :: kp) →
      vl'.length ≤ bits (cP 0 gs) * (bits (cP 1 gs) + 1) + bits (cP 1 gs) → IsPair o q → IsRest gs q → Q (.ref r) { s with heap := h', toks := tk' }) :
    wpAny (model PySem.Challenge.rw_ph0161_01.row.prog w) (ktrTop dp un gd cn cs L a ccd cl outer) (call (.ref 221) [.ref tx, .ref lk, .ref se, .ref lo, .ref hi, .bool true] []) Q E s := by
  have ha : ∀ a ∈ [lk, 218], h₀.get? a = none ∧ a ≠ L := fun a ha => by
    simp only [List.mem_cons, List.not_mem_nil, or_false] at ha
    rcases ha with rfl | rfl
    · exact ⟨(N _ (.head _)).2.2, (N _ (.head _)).2.1⟩
    · exact ⟨(N _ (.tail _ (.head _))).2.2, (N _ (.tail _ (.head _))).2.1⟩
  have hoff : ∀ q ∈ kp, q.1 ∉ [lk, 218] := fun q hq e => by
    simp only [List.mem_cons, List.not_mem_nil, or_false] at e
    exact e.elim (hkp q hq).1 (hkp q hq).2
  have Fh := hide_fr F ha
  have Nh : News h₀ L (hideAll s.heap [lk, 218]) kp := hide_news (fun q hq => N q (.tail _ (.tail _ hq))) hoff
  refine rest_1t (rest_0t (rest_zero (D := 710) (by decide)) (by decide : 705 + 5 ≤ 710) (by decide) hg) (by decide : 700 + 5 ≤ 705) (by decide) hg dp un gd cn cs a ccd cl outer A₀ base h₀ L m s Q E tx lm lk c' se lo hi _ [] [] (0, 0) (cP 0 gs, cP 1 gs) [] nl t1 t2 t3 t4
    B F X T hk hdp hun ha (tabIn Fh Nh m1 m2 m3 hr hs hg hl) (hC.keeps Fh.keep) ⟨c', oc, vsc, tq, rfl, (Nh _ mc).1, hoc, hvs⟩ rfl ⟨_, (Nh _ mse).1, rfl, _, rfl⟩ .nil rfl (fun i hi => nomatch hi) ⟨_, (Nh _ mlo).1, rfl, _, rfl⟩ (by decide) (by decide) ⟨_, (Nh _ mhi).1, rfl, _, rfl⟩ h90 h91 (N _ (.head _)).1 (by decide) (N _ (.tail _ (.head _))).1 l218 ?_
  intro r h' tk' vl' nl' o kb h218 hlk hlen hro hpo hrr
  obtain ⟨x, y, e1, ex, ey, ef0, ef1, hcnt⟩ := rest_outer (come_mono gs) true (n0 := cP 0 gs) (n1 := cP 1 gs) (come_le gs 0) (come_le gs 1) (by omega) (by omega)
  rw [e1] at hpo
  refine h r h' tk' vl' nl' o (x, y) (fr_butL F kb ha) (fun q hq => ?_) (by rw [hlen, List.length_nil, Nat.zero_add]; exact hcnt) hpo ⟨ef0, ef1⟩
  rcases List.mem_cons.mp hq with rfl | hq
  · rcases hrr with rfl | hrr
    · exact ⟨hro, (N _ (.tail _ (.tail _ mse))).2⟩
    · exact ⟨hro, fresh_ge F hrr⟩
  rcases List.mem_cons.mp hq with rfl | hq
  · exact ⟨hlk, (N _ (.head _)).2⟩
  rcases List.mem_cons.mp hq with rfl | hq
  · exact ⟨h218, (N _ (.tail _ (.head _))).2⟩
  · exact ⟨kb _ _ (hoff q hq) (N q (.tail _ (.tail _ hq))).1, (N q (.tail _ (.tail _ hq))).2⟩
end
noncomputable def pairD (q : Nat × Nat) : Dat := .list [.int ((q.1 : Nat) : Int), .int ((q.2 : Nat) : Int)]
theorem pairD_ok (q : Nat × Nat) : kqdOk 8 (pairD q) = true := rfl
theorem pairD_inj {a b : Nat × Nat} (h : pairD a = pairD b) : a = b := by
  unfold pairD at h
  simp only [Dat.list.injEq, List.cons.injEq, Dat.int.injEq, and_true] at h
  exact Prod.ext (by omega) (by omega)
theorem pairs_ok (ps : List (Nat × Nat)) : ∀ d ∈ ps.map pairD, kqdOk 8 d = true := fun d hd => by
  obtain ⟨q, -, rfl⟩ := List.mem_map.mp hd
  exact pairD_ok q
theorem datAll_of {ex : List (Addr × Obj)} : ∀ {rs : List Value} {ps : List (Nat × Nat)}, rs.length = ps.length → (∀ (c : Nat) (v : Value), rs[c]? = some v → ∃ r q t u n, v = .ref r ∧ ps[c]? = some q ∧ (r, listOf #[.int ((q.1 : Nat) : Int) t, .int ((q.2 : Nat) : Int) u] n) ∈ ex) → DatAll ex rs (ps.map pairD)
  | [], [], _, _ => .nil
  | v :: rs, p :: ps, hl, h => by
    obtain ⟨r, q, t, u, n, rfl, hq, hm⟩ := h 0 v rfl
    obtain rfl : p = q := by simpa using hq
    refine .cons (.list (vs := [.int ((p.1 : Nat) : Int) t, .int ((p.2 : Nat) : Int) u]) hm (.cons (.int _ _) (.cons (.int _ _) .nil))) (datAll_of (by simpa using hl) fun c v hv => ?_)
    obtain ⟨r, q, t, u, n, e, hq, hm⟩ := h (c + 1) v (by simpa using hv)
    exact ⟨r, q, t, u, n, e, by simpa using hq, hm⟩
theorem RestsSt.dat {gs : List Guest} {rs : List Value} {ps : List (Nat × Nat)} {ex : List (Addr × Obj)} {Pd : Nat × Nat → Prop} {k : Nat} (R : RestsSt gs rs ps ex Pd k) : DatAll ex rs (ps.map pairD) := datAll_of R.len R.item
theorem notIn_pair {prog : Program} {w : World} {A : Around} {E : Value → Shared → Prop} {s : Shared} {h₀ : Heap} {L a r : Addr} {news ex : List (Addr × Obj)} {o : Obj} {xs : List Value} {ka : Nat} {q : Nat × Nat} {ps : List (Nat × Nat)} {Q : Value → Shared → Prop}
    (N : News h₀ L s.heap news) (ma : (a, listOf xs.toArray ka) ∈ news) (Da : DatAll ex xs (ps.map pairD)) (sa : ∀ p ∈ ex, p ∈ news) (mr : (r, o) ∈ news) (hp : IsPair o q) (hq : q ∈ ps) (hu : A.units + 64 < cLine) (h : Q (.bool false) s) :
    wpAny (model prog w) A (compareOp .NotIn (.ref r) (.ref a)) Q E s := by
  obtain ⟨hc, t, u, n, hd⟩ := hp
  obtain ⟨as, ra⟩ := kqd_all N 8 (Da.mono sa) (pairs_ok ps)
  obtain ⟨bs, rx⟩ : ∃ bs, Reads s.heap (.ref r) (kqdP (pairD q)) bs :=
    ⟨_, reads_list_at (xs := [.int ((q.1 : Nat) : Int), .int ((q.2 : Nat) : Int)]) (N.get mr) hc hd (ReadsAll.cons (Reads.int _ t) (ReadsAll.cons (Reads.int _ u) ReadsAll.nil))⟩
  have l := kqd_layL (pairs_ok ps)
  have ld := kqd_lay 8 _ (pairD_ok q)
  have e : ((kqdPs (ps.map pairD)).any fun y => PyData.eqv y (kqdP (pairD q))) = true := (kqd_any _ _ (pairs_ok ps) (pairD_ok q)).mpr (List.mem_map_of_mem hq)
  have l2 := ld.2
  refine SeqAt.notIn_list_reads (reads_list_at (N.get ma) rfl rfl (by simpa using ra)) rx l.1 ld.1 ?_ (by rw [e]; exact h)
  have := Nat.min_le_right (PyData.depthAll (kqdPs (ps.map pairD))) (kqdP (pairD q)).depth
  omega

end

-- part C17d
section
theorem fresh_C17d : True := by w_top off; trivial
local macro_rules | `(tactic| walk_at "zz9") => `(tactic| fail)
local macro_rules | `(tactic| walk_at "zz9") => `(tactic| fail)
local macro_rules | `(tactic| walk_at "zz9") => `(tactic| fail)
local macro_rules | `(tactic| walk_at "zz9") => `(tactic| fail)
local macro_rules | `(tactic| walk_at "zz9") => `(tactic| fail)
open LCg LCt
noncomputable def MS (W R : Addr) (wd dp : Nat) (ta tb : Tok) (u : Str → Option Value) : Str → Option Value := fun z => if z = Str.ofString "rests" then some (.ref R) else if z = Str.ofString "whole" then some (.ref W) else
  if z = Str.ofString "wide" then some (.int ((wd : Nat) : Int) ta) else if z = Str.ofString "deep" then some (.int ((dp : Nat) : Int) tb) else u z
theorem ms_eq {W R : Addr} {wd dp : Nat} {ta tb : Tok} {m : Str → Option Value} (h1 : m (Str.ofString "rests") = some (.ref R)) (h2 : m (Str.ofString "whole") = some (.ref W)) (h3 : m (Str.ofString "wide") = some (.int ((wd : Nat) : Int) ta)) (h4 : m (Str.ofString "deep") = some (.int ((dp : Nat) : Int) tb)) : m = MS W R wd dp ta tb m := by
  funext z
  unfold MS
  by_cases a : z = Str.ofString "rests"
  · rw [if_pos a, a]; exact h1
  · rw [if_neg a]
    by_cases b : z = Str.ofString "whole"
    · rw [if_pos b, b]; exact h2
    · rw [if_neg b]
      by_cases c : z = Str.ofString "wide"
      · rw [if_pos c, c]; exact h3
      · rw [if_neg c]
        by_cases d : z = Str.ofString "deep"
        · rw [if_pos d, d]; exact h4
        · rw [if_neg d]
theorem pickU {g h : Heap} {L T : Addr} {ot : Obj} {a b1 b2 b3 b4 b5 b6 b7 b8 b9 c : Addr × Obj} {rest : List (Addr × Obj)} (N : News g L h ((T, ot) :: a :: b1 :: b2 :: b3 :: b4 :: b5 :: b6 :: b7 :: b8 :: b9 :: c :: rest)) :
    ∃ T' R, T' = T ∧ R = (T', ot) :: b1 :: b2 :: b3 :: b4 :: b5 :: b6 :: b7 :: b8 :: b9 :: rest ∧ News g L h (c :: (R ++ [])) := ⟨T, _, rfl, rfl, fun q hq => N q (by
  simp only [List.append_nil, List.mem_cons] at hq ⊢
  rcases hq with h | h | h | h | h | h | h | h | h | h | h | h <;> simp [h])⟩
/-- the code's table between the rounds of the loop over upper -/
structure TabSt (i : Nat) (tab : Array Value) (ex : List (Addr × Obj)) (P : Addr → Prop) : Prop where
  zero : i = 0 → tab = #[]
  one : i = 1 → ∃ (c' : Addr) (oc : Obj) (vsc : Array Value) (tq : Tok), tab = psOf c' ∧ (c', oc) ∈ ex ∧ oc.data = .fields vsc ∧ vsc[1]? = some (.str (Str.ofString "_law_rest.<locals>.looked") tq)
  off : ∀ q ∈ ex, P q.1
theorem kp_off {lk se lo I13 : Addr} {ose olo o218 oI : Obj} {R : List (Addr × Obj)} (l1 : AllLt lk ((I13, oI) :: (218, o218) :: R)) (ls : @LT.lt Nat _ lk se) (llo : @LT.lt Nat _ lk lo) (hI : @Ne Nat I13 218) (hR : ∀ q ∈ R, @Ne Nat q.1 218) : ∀ q ∈ (lo, olo) :: (se, ose) :: (I13, oI) :: R, @Ne Nat q.1 lk ∧ @Ne Nat q.1 218 := by
  have lt := allLt_mem l1
  have l0 : @LT.lt Nat _ 218 lk := lt (218, o218) (.tail _ (.head _))
  intro q hq
  rcases List.mem_cons.mp hq with rfl | hq
  · exact ⟨Nat.ne_of_gt llo, Nat.ne_of_gt (Nat.lt_trans l0 llo)⟩
  rcases List.mem_cons.mp hq with rfl | hq
  · exact ⟨Nat.ne_of_gt ls, Nat.ne_of_gt (Nat.lt_trans l0 ls)⟩
  rcases List.mem_cons.mp hq with rfl | hq
  · exact ⟨Nat.ne_of_lt (lt (I13, oI) (.head _)), hI⟩
  · exact ⟨Nat.ne_of_lt (lt q (.tail _ (.tail _ hq))), hR q hq⟩
theorem len_lo {prog : Program} {w : World} {A : Around} {E : Value → Shared → Prop} {s : Shared} {l : Addr} {vs : List Value} {n : Nat} {Q : Value → Shared → Prop} (hl : s.heap.get? l = some (listOf vs.toArray n)) (hb : vs.length ≤ 1000)
    (h : Q (.int ((vs.length : Nat) : Int) (s.toks + 1)) { s with toks := s.toks + 1 + 1 }) : wpAny (model prog w) A (call (.builtin "len") [.ref l]) Q E s :=
  call_len_list (items := vs.toArray) ⟨_, hl, rfl, _, rfl⟩ (by rw [List.size_toArray]; omega) h
theorem pickLk {g h : Heap} {L lo se lk : Addr} {olo ose olk : Obj} {I c : Addr × Obj} {R : List (Addr × Obj)} (N : News g L h ((lo, olo) :: (se, ose) :: (lk, olk) :: I :: c :: R)) :
    ∃ lo' se' lk', lo' = lo ∧ se' = se ∧ lk' = lk ∧ News g L h ((lk', olk) :: c :: (lo', olo) :: (se', ose) :: I :: R) := ⟨lo, se, lk, rfl, rfl, rfl, fun q hq => N q (by
  simp only [List.mem_cons] at hq ⊢
  rcases hq with h | h | h | h | h | h <;> simp [h])⟩
theorem looks_absurd {a b n : Nat} (h : n ≤ a * (b + 1) + b) (g : ((a : Nat) : Int) * (((b : Nat) : Int) + 1) + ((b : Nat) : Int) < ((n : Nat) : Int)) : False := by
  have e : ((a * (b + 1) + b : Nat) : Int) = ((a : Nat) : Int) * (((b : Nat) : Int) + 1) + ((b : Nat) : Int) := by push_cast; rfl
  rw [← e] at g
  omega
theorem endU {g h : Heap} {L : Addr} {r lk lo se I c cc : Addr × Obj} {R Rk ex : List (Addr × Obj)} (N : News g L h (r :: lk :: c :: cc :: lo :: se :: I :: R)) (e : R = Rk ++ ex) : News g L h (I :: c :: (Rk ++ (ex ++ [cc]))) := fun q hq => N q (by
  subst e
  simp only [List.mem_cons, List.mem_append, List.not_mem_nil, or_false] at hq ⊢
  rcases hq with h | h | h | h | h <;> simp [h])
theorem endV {g h : Heap} {L : Addr} {r lk lo se I c : Addr × Obj} {R Rk ex : List (Addr × Obj)} (N : News g L h (r :: lk :: c :: lo :: se :: I :: R)) (e : R = Rk ++ ex) : News g L h (I :: c :: (Rk ++ ex)) := fun q hq => N q (by
  subst e
  simp only [List.mem_cons] at hq ⊢
  rcases hq with h | h | h <;> simp [h])
theorem off_snoc {P : Addr → Prop} {ex : List (Addr × Obj)} {cc : Addr × Obj} (h : ∀ q ∈ ex, P q.1) (hc : P cc.1) : ∀ q ∈ ex ++ [cc], P q.1 := fun q hq => by
  rcases List.mem_append.mp hq with hq | hq
  · exact h q hq
  · rw [List.mem_singleton.mp hq]; exact hc
theorem off_tab {I13 : Addr} {t : Addr} {o o' : Obj} {Rk ex ex' : List (Addr × Obj)} (off : ∀ p ∈ (t, o) :: (Rk ++ ex), p.1 ≠ I13) (hx : ∀ q ∈ ex', q ∈ ex ∨ @Ne Nat q.1 I13) : ∀ p ∈ (t, o') :: (Rk ++ ex'), p.1 ≠ I13 := fun q hq => by
  rcases List.mem_cons.mp hq with rfl | hq
  · exact off (t, o) (.head _)
  rcases List.mem_append.mp hq with hq | hq
  · exact off q (.tail _ (List.mem_append_left _ hq))
  · exact (hx q hq).elim (fun z => off q (.tail _ (List.mem_append_right _ z))) id
theorem fresh_none {h₀ h h' : Heap} {L r : Addr} {m : Str → Option Value} {nx : List (Addr × Obj)} {o : Obj} (F : Fr h₀ L h m) (N : News h₀ L h nx) (k : ∀ b o, h.get? b = some o → h'.get? b = some o) (hr : h.get? r = none) (ho : h'.get? r = some o) :
    Fr h₀ L h' m ∧ News h₀ L h' ((r, o) :: nx) ∧ ∀ p ∈ nx, @Ne Nat p.1 r := by
  refine ⟨F.keeps k, fun q hq => ?_, fun p hp e => ?_⟩
  · rcases List.mem_cons.mp hq with rfl | hq
    · refine ⟨ho, fun e => ?_, ?_⟩
      · obtain ⟨o', _, _, hL, _⟩ := F.ns
        have e' : r = L := e
        rw [← e', hr] at hL; cases hL
      · cases q : h₀.get? r with
        | none => rfl
        | some o' => have := F.keep _ _ q; rw [hr] at this; cases this
    · exact (N.grown k) q hq
  · have := (N p hp).1
    have e' : p.1 = r := e
    rw [e', hr] at this; cases this
theorem pickW {g h : Heap} {L : Addr} {c T r1 r2 lm tx dx c6 c5 c2 c1 : Addr × Obj} {rest : List (Addr × Obj)} (N : News g L h (c :: T :: r1 :: r2 :: lm :: tx :: dx :: c6 :: c5 :: c2 :: c1 :: rest)) : News g L h (r1 :: r2 :: c6 :: c5 :: c1 :: c :: rest) := fun q hq => N q (by
  simp only [List.mem_cons] at hq ⊢
  rcases hq with h | h | h | h | h | h | h <;> simp [h])
theorem gsOf_ne (ns : List Int) : gsOf ns ≠ [] := fun e => by
  have := congrArg List.length e
  unfold gsOf at this
  rw [List.length_map, List.length_append] at this
  simp at this
theorem RowsO.rev {g : Heap} {nx : List (Addr × Obj)} {vs : List Value} {rs : List (Str × Str)} (x : RowsO g nx vs rs) : RowsO g nx vs.reverse rs.reverse := by
  induction x with
  | nil => exact .nil
  | cons y _ ih => rw [List.reverse_cons, List.reverse_cons]; exact ih.snoc y
theorem guests_rev {gs : List Guest} (h : GuestsOk gs) : GuestsOk gs.reverse := fun g hg => h g (List.mem_reverse.mp hg)
theorem pickZ {g h : Heap} {L : Addr} {rb D ra r1 r2 c6 c5 c1 : Addr × Obj} {rest : List (Addr × Obj)} (N : News g L h (rb :: D :: ra :: r1 :: r2 :: c6 :: c5 :: c1 :: rest)) : News g L h (rb :: ra :: r1 :: r2 :: c6 :: c5 :: rest) := fun q hq => N q (by
  simp only [List.mem_cons] at hq ⊢
  rcases hq with h | h | h | h | h | h | h <;> simp [h])
section
variable {prog : Program} {w : World} {A : Around} {E : Value → Shared → Prop} {s : Shared} {value slice : PySem.Expr} {u : Tok} {Q : Value → Shared → Prop} {h₀ : Heap} {L l : Addr} {news : List (Addr × Obj)} {o : Obj} {x y : Nat}
theorem item_pair0 (N : News h₀ L s.heap news) (hm : (l, o) ∈ news) (hp : IsPair o (x, y))
    (hs : subscripted slice false (.ref l) (.int 0 u) = operate [.ref l, .int 0 u] (getItem (.ref l) (.int 0 u))) (h : ∀ t, Q (.int ((x : Nat) : Int) t) s) :
    wpAny (model prog w) A (subscriptTail value slice (.ref l) (.int 0 u)) Q E s := by
  obtain ⟨hc, t, u', n, hd⟩ := hp
  have hL : s.heap.IsList l #[.int ((x : Nat) : Int) t, .int ((y : Nat) : Int) u'] := ⟨_, (N _ hm).1, hc, n, hd⟩
  exact tail_any hL.typeIs slot_list_getitem.lookup (wpAny_getItem_list hL (by decide) (by decide) rfl (h t)) hs
theorem item_pair1 (N : News h₀ L s.heap news) (hm : (l, o) ∈ news) (hp : IsPair o (x, y))
    (hs : subscripted slice false (.ref l) (.int 1 u) = operate [.ref l, .int 1 u] (getItem (.ref l) (.int 1 u))) (h : ∀ t, Q (.int ((y : Nat) : Int) t) s) :
    wpAny (model prog w) A (subscriptTail value slice (.ref l) (.int 1 u)) Q E s := by
  obtain ⟨hc, t, u', n, hd⟩ := hp
  have hL : s.heap.IsList l #[.int ((x : Nat) : Int) t, .int ((y : Nat) : Int) u'] := ⟨_, (N _ hm).1, hc, n, hd⟩
  exact tail_any hL.typeIs slot_list_getitem.lookup (wpAny_getItem_list hL (by decide) (by decide) rfl (h u')) hs
end
theorem endW {g h : Heap} {L l' I C D : Addr} {o oI oC oD : Obj} {R R80 ex : List (Addr × Obj)} (N : News g L h ((l', o) :: (I, oI) :: (C, oC) :: (D, oD) :: R)) (ll : AllLt l' ((I, oI) :: (C, oC) :: (D, oD) :: R)) (e : R = R80 ++ ex) (off : Off3 I C D (ex ++ R80)) (hex : ∀ q ∈ ex, ∀ p ∈ R80, @Ne Nat q.1 p.1) :
    News g L h ((I, oI) :: (C, oC) :: (D, oD) :: (((l', o) :: ex) ++ R80)) ∧ Off3 I C D (((l', o) :: ex) ++ R80) ∧ ∀ q ∈ (l', o) :: ex, ∀ p ∈ R80, @Ne Nat q.1 p.1 := by
  subst e
  have lt := allLt_mem ll
  refine ⟨fun q hq => N q ?_, ⟨⟨Nat.ne_of_gt (lt (I, oI) (.head _)), Nat.ne_of_gt (lt (C, oC) (.tail _ (.head _))), Nat.ne_of_gt (lt (D, oD) (.tail _ (.tail _ (.head _))))⟩, off⟩, fun q hq p hp => ?_⟩
  · simp only [List.mem_cons, List.mem_append, List.cons_append] at hq ⊢
    rcases hq with z | z | z | z | z | z <;> simp [z]
  · rcases List.mem_cons.mp hq with rfl | hq
    · exact Nat.ne_of_gt (lt p (.tail _ (.tail _ (.tail _ (List.mem_append_left _ hp)))))
    · exact hex q hq p hp
open Classical in
theorem eq_pairs {prog : Program} {w : World} {A : Around} {E : Value → Shared → Prop} {s : Shared} {h₀ : Heap} {L a b : Addr} {news n1 n2 : List (Addr × Obj)} {xs ys : List Value} {ka kb : Nat} {ps : List (Nat × Nat)} {Q : Value → Shared → Prop}
    (N : News h₀ L s.heap news) (ma : (a, listOf xs.toArray ka) ∈ news) (Da : DatAll n1 xs (ps.map pairD)) (sa : ∀ p ∈ n1, p ∈ news) (mb : (b, listOf ys.toArray kb) ∈ news) (Db : DatAll n2 ys (ps.map pairD)) (sb : ∀ p ∈ n2, p ∈ news)
    (hu : A.units + 64 < cLine) (h : Q (.bool true) s) : wpAny (model prog w) A (compareOp .Eq (.ref a) (.ref b)) Q E s :=
  kqd_eq N ma rfl rfl Da sa mb rfl rfl Db sb (pairs_ok ps) (pairs_ok ps) hu (by rw [decide_eq_true rfl]; exact h)
theorem law_end {cl : Str → Option Addr} {mean : ExcName → Option Value} {args : List WData} {s₁ s' : Shared} {L : Addr} {m : Str → Option Value} (F : Fr s₁.heap L s'.heap m) (hg : s'.gens = #[]) (hos : s'.os = s₁.os) :
    GoodW PySem.Challenge.rw_ph0161_01.row.claim cl mean args s₁ (.ok (.ret (.bool true))) s' := by
  refine goodW_bool F hg (raisesW_false ?_) ?_ hos
  · wrow_none_raised
  · wrow_post

inductive JA (g : Heap) (lm : Addr) (R9 : List (Addr × Obj)) (gs : List Guest) (i : Nat) (nx' : List (Addr × Obj)) : Prop
  | mk (vm : List Value) (nm : Nat) (ex : List (Addr × Obj)) (e1 : nx' = (lm, listOf vm.toArray nm) :: (R9 ++ ex)) (e2 : RowsO g ex vm ((gs.take i).map rowOf)) (e3 : ∀ q ∈ ex, @Ne Nat q.1 lm ∧ ∀ p ∈ R9, @Ne Nat q.1 p.1)
inductive JB (K : Addr) (R8 : List (Addr × Obj)) (gs : List Guest) (i : Nat) (ys : List Value) (nw : List (Addr × Obj)) : Prop
  | mk (oK' : Obj) (more : List (Addr × Obj)) (v0 : Option Value) (e1 : nw = (K, oK') :: (more ++ R8)) (e2 : oK'.data = .cell v0) (e3 : ys.length = i) (e4 : ∀ q ∈ more, @Ne Nat q.1 K) (e5 : ∀ (c : Nat) (v : Value), ys[c]? = some v → ∃ b vs, v = .ref b ∧ (b, lst vs) ∈ more ∧ StrsAre vs ((crowd gs c).map fun q => txt q.1 q.2))
inductive JO (D D8 DR c3 c4 : Addr) (Rf : List (Addr × Obj)) (gs : List Guest) (i : Nat) (m : Str → Option Value) (nx' : List (Addr × Obj)) : Prop
  | mk (e0 : ∃ u, m = MR D D8 DR u) (ox oy : Obj) (rs : List Value) (nR : Nat) (ps : List (Nat × Nat)) (ex : List (Addr × Obj)) (e1 : nx' = (c3, ox) :: (c4, oy) :: (DR, listOf rs.toArray nR) :: (Rf ++ ex)) (e2 : ∃ v, ox.data = .cell v) (e3 : ∃ v, oy.data = .cell v) (e4 : RestsSt gs rs ps ex (fun q => q.1 < i) (i * (cP 1 gs + 1)))
      (e5 : ∀ q ∈ ex, @Ne Nat q.1 c3 ∧ @Ne Nat q.1 c4 ∧ @Ne Nat q.1 DR ∧ ∀ p ∈ Rf, @Ne Nat q.1 p.1)
inductive JI (D D8 DR c3 c4 I15 : Addr) (oI15 oX : Obj) (R26 ex : List (Addr × Obj)) (gs : List Guest) (i j : Nat) (m : Str → Option Value) (nx' : List (Addr × Obj)) : Prop
  | mk (e0 : ∃ u, m = MR D D8 DR u) (oy : Obj) (rs : List Value) (nR : Nat) (ps : List (Nat × Nat)) (ex2 : List (Addr × Obj)) (e1 : nx' = (I15, oI15) :: (c3, oX) :: (c4, oy) :: (DR, listOf rs.toArray nR) :: (R26 ++ ex2)) (e2 : ∃ v, oy.data = .cell v) (e3 : RestsSt gs rs ps (ex ++ ex2) (fun q => q.1 < i ∨ q.1 = i ∧ q.2 < j) (i * (cP 1 gs + 1) + j))
      (e4 : ∀ q ∈ ex2, @Ne Nat q.1 I15 ∧ @Ne Nat q.1 c3 ∧ @Ne Nat q.1 c4 ∧ @Ne Nat q.1 DR ∧ ∀ p ∈ R26, @Ne Nat q.1 p.1)
inductive JK (K : Addr) (R8 : List (Addr × Obj)) (gs : List Guest) (i : Nat) (ys : List Value) (nw : List (Addr × Obj)) : Prop
  | mk (oK' : Obj) (v0 : Option Value) (e1 : nw = (K, oK') :: R8) (e2 : oK'.data = .cell v0) (e3 : ys.length = i) (e4 : ∀ (c : Nat) (v : Value), ys[c]? = some v → ∃ t, v = .int ((bits (cP c gs) : Nat) : Int) t)
inductive JU (D8 DR : Addr) (b0 b1 : Nat) (ta tb : Tok) (Rk : List (Addr × Obj)) (P : Addr → Prop) (i : Nat) (m : Str → Option Value) (nx' : List (Addr × Obj)) : Prop
  | mk (e0 : ∃ u, m = MS D8 DR b0 b1 ta tb u) (tab : Array Value) (ex : List (Addr × Obj)) (e1 : nx' = (218, tabObj tab) :: (Rk ++ ex)) (e2 : TabSt i tab ex P)
inductive JZ (R80 : List (Addr × Obj)) (ps : List (Nat × Nat)) (j : Nat) (ys : List Value) (nw : List (Addr × Obj)) : Prop
  | mk (ex : List (Addr × Obj)) (e1 : nw = ex ++ R80) (e2 : ys.length = j) (e3 : ∀ (c : Nat) (v : Value), ys[c]? = some v → ∃ r q t u n, v = .ref r ∧ ps[c]? = some q ∧ (r, listOf #[.int ((q.1 : Nat) : Int) t, .int ((q.2 : Nat) : Int) u] n) ∈ ex) (e4 : ∀ q ∈ ex, ∀ p ∈ R80, @Ne Nat q.1 p.1)

end
end

-- part C17
section
theorem fresh_C17 : True := by w_top off; trivial
open LCg LCt
local macro_rules | `(tactic| k_all) => `(tactic| (first | assumption | exact Mine.tail_lt (by assumption)))
local macro_rules | `(tactic| walk_at "call ref") => `(tactic| (refine Mine.hold ?_))
local macro_rules | `(tactic| walk_at "call ref") => `(tactic| (k_here; (with_reducible apply Mine.at139); k_dflt (apply Mine.get_allK; k_asm; k_asm; k_asm; k_asm; k_asm; rfl; decide; (apply Mine.tabIn; k_asm; k_asm; k_mem; k_mem; k_mem; assumption; (intro q hq; repeat (first | exact hq | exact List.mem_append_left _ hq | refine List.Mem.tail _ ?_)); assumption; assumption); decide; decide +kernel; k_whole); intro _ _ _ _ _ _ _ _; (try dsimp only); (try k_sweep)))
local macro_rules | `(tactic| walk_at "pyIter ref") => `(tactic| (k_here; first | (with_reducible apply Mine.holdI1) | (with_reducible apply Mine.holdI2) | (with_reducible apply Mine.holdI3)))
local macro_rules | `(tactic| walk_at "call ref") => `(tactic| (k_here; (with_reducible apply Mine.at216); k_dflt (apply Mine.fitsK; k_asm; k_asm; k_asm; k_asm; k_asm; rfl; ktr_room; ktr_units; assumption; assumption; (apply Mine.listK; k_asm; k_mem; rfl; rfl); omega; omega; k_whole); intro _ _ _ _; (try dsimp only); (try k_sweep)))
local macro_rules | `(tactic| walk_at "eval ListComp") => `(tactic| (k_here; lct_look; k_dflt (apply Mine.lcT; k_asm; with_unfolding_all rfl; decide; rfl; decide; rfl; (intro _; rfl); k_whole)))
local macro_rules | `(tactic| walk_at "CompSrcT") => `(tactic| (refine Mine.hold ?_))
local macro_rules | `(tactic| walk_at "call builtin:len") => `(tactic| (refine Mine.hold ?_))
local macro_rules | `(tactic| walk_at "compareOp NotEq ref ref") => `(tactic| (refine Mine.hold ?_))
local macro_rules | `(tactic| walk_at "storeName") => `(tactic| (k_here; with_reducible apply Mine.holdC))
local macro_rules | `(tactic| walk_at "exec Assign cons ListComp") => `(tactic| (refine Mine.hold ?_))
local macro_rules | `(tactic| walk_at "CompSrc") => `(tactic| (refine Mine.hold ?_))
local macro_rules | `(tactic| walk_at "CompEnd") => `(tactic| (refine Mine.hold ?_))
local macro_rules | `(tactic| walk_at "exec For") => `(tactic| (refine Mine.hold ?_))
local macro_rules | `(tactic| walk_at "exec For Name Tuple cons nil") => `(tactic| (refine Mine.hold ?_))
local macro_rules | `(tactic| walk_at "exec For Name Call cons nil") => `(tactic| (refine Mine.hold ?_))
local macro_rules | `(tactic| walk_at "exec For Tuple Name cons nil") => `(tactic| (refine Mine.hold ?_))
structure Late : Prop
local macro_rules | `(tactic| walk_at "compareOp NotIn ref ref") => `(tactic| ((with_reducible rename Mine.Late => late9); (refine Mine.hold ?_)))
local macro_rules | `(tactic| walk_at "subscriptTail Name Slice ref ref") => `(tactic| ((with_reducible rename Mine.Late => late9); (refine Mine.hold ?_)))
local macro_rules | `(tactic| walk_at "eval ListComp") => `(tactic| ((with_reducible rename Mine.Late => late9); (k_here; (with_reducible apply Mine.holdLT))))
local macro_rules | `(tactic| walk_at "subscriptTail Name Constant ref int") => `(tactic| ((with_reducible rename Mine.Late => late9); (k_here; (first | ((with_reducible apply Mine.at_ri0); k_dflt (apply Mine.item_pair0; k_asm; k_mem; assumption; with_unfolding_all rfl; k_whole)) | ((with_reducible apply Mine.at_ri1); k_dflt (apply Mine.item_pair1; k_asm; k_mem; assumption; with_unfolding_all rfl; k_whole))); intro _; (try dsimp only))))
local macro_rules | `(tactic| walk_at "compareOp Eq ref ref") => `(tactic| ((with_reducible rename Mine.Late => late9); (refine Mine.hold ?_)))
set_option maxHeartbeats 40000000 in
theorem law_main : PySem.Challenge.rw_ph0161_01.Holds := hd (by
  k_go0
  rename Shared => s9
  all_goals (try k_fold)
  rename (Below callerA _ _ _) => K9
  rename (Top topProg _ _ _ _ _) => T9
  rename (Frag.In _ _) => X9
  rename (Fr _ _ _ _) => F9
  rename (News _ _ _ _) => N9
  rename (IntsAre _ _) => hI
  rename (Heap.IsList _ _ _) => hL
  rename (CodeHd _ _ _) => hC
  rename (@LT.lt Nat _ 218 _) => l0
  rename (¬ (_ : Int) < _) => hcond
  k_steps
  refine unhold ?_
  refine guests_spec K9 F9 X9 T9 ?a1 ?a2 ?a3 ?a4 hI ?a5 ?_
  case a1 => rfl
  case a2 => decide
  case a3 => decide
  case a4 => exact hL.at fun o e => F9.keep _ o e
  case a5 => omega
  intro gl h2 tk2 vg k2 hr2 hg2 R2 hf2
  obtain ⟨nx, F2, N2, mgl, rgs, hne⟩ := guests_ledger F9 N9 k2 hr2 hg2 R2 hf2
  simp only [List.cons_append, List.nil_append] at N2
  obtain ⟨gs, rgs, hgok, hglen, hgs⟩ := pickGs rgs
  have e1 := hne _ _ (.head _)
  have e2 := hne _ _ (.tail _ (.head _))
  have e3 := hne _ _ (.tail _ (.tail _ (.head _)))
  have e4 := hne _ _ (.tail _ (.tail _ (.tail _ (.head _))))
  have e5 := hne _ _ (.tail _ (.tail _ (.tail _ (.tail _ (.head _)))))
  have e6 := hne _ _ (.tail _ (.tail _ (.tail _ (.tail _ (.tail _ (.head _))))))
  have e7 := hne _ _ (.tail _ (.tail _ (.tail _ (.tail _ (.tail _ (.tail _ (.head _)))))))
  clear F9 N9 k2 hr2 hg2 R2 hf2 hne
  (try dsimp only)
  k_steps
  refine unhold ?_
  refine headers_spec K9 (by assumption) X9 T9 rfl (by decide) (by decide) (by assumption) ?_
  intro tx dx lm h3 tk3 tkey F3 N3 l1 l2 l3
  clear F2 N2
  replace l1 := allLt_of l1
  simp only [AllLt, and_true] at l1
  (try dsimp only)
  k_steps
  refine unhold ?_
  rename (Fr _ _ _ _) => F4
  rename (News _ _ _ _) => N4
  refine For_turns F4 ?_ (by intro _; rfl) ?_
  · k_steps
    refine unhold ?_
    obtain ⟨R9, hR9, N5⟩ := pickR N4
    have hRlm : ∀ q ∈ R9, @LT.lt Nat _ q.1 lm := tb_ltOf (by
      rw [hR9]
      refine ⟨l3, Nat.lt_trans l2 l3, ?_, ?_, ?_, ?_, ?_, ?_, ?_, tbn_up (Nat.lt_trans l2 l3) l1.2.2.2.2.2.2.2⟩ <;> (dsimp only; omega))
    have hgn := rgs.length
    rw [List.length_map] at hgn
    refine iter_M (lo := lst vg) (vs := vg) rfl rfl rfl F4 N5 (fun i _ nx' => JA (ghostOf s9.heap [(220, 218)]) lm R9 gs i nx') ?_ ⟨[], 0, [], by rw [List.append_nil], .nil, fun _ h => nomatch h⟩ ?_ ?_
    · rintro i m nx' ⟨vm, nm, ex, rfl, -⟩
      exact .inr (.tail _ (List.mem_append_left _ (by rw [hR9]; exact .tail _ (.tail _ (.tail _ (.tail _ (.tail _ (.tail _ (.tail _ (.tail _ (.tail _ mgl)))))))))))
    · rintro i v m1 nx' h7 tk7 I oI hvi ⟨vm, nm, ex, rfl, rvm, hex⟩ offI ltI LI F7 N7
      obtain ⟨r, hri, ta, to, t3, t4, tn, rfl, hto, ctd, dtd⟩ := rgs.get i v hvi
      rw [List.getElem?_map] at hri
      obtain ⟨g9, hgi, rfl⟩ := Option.map_eq_some_iff.mp hri
      obtain ⟨gn, gi, gj⟩ := g9
      obtain ⟨hgn4, hgi5, hgj5⟩ := hgok _ (List.mem_of_getElem? hgi)
      dsimp only at hgn4 hgi5 hgj5
      dsimp only [rowOf] at dtd
      have htake := List.take_add_one (l := gs) (i := i)
      rw [hgi] at htake
      have hvl := rvm.length
      rw [List.length_map, List.length_take] at hvl
      have hi9 := (List.getElem?_eq_some_iff.mp hgi).1
      refine unpackN_ F7 N7 ⟨to, hto.get F7 N7 (fun q hq => .tail _ (.tail _ (List.mem_append_left _ (by rw [hR9]; exact .tail _ (.tail _ (.tail _ (.tail _ (.tail _ (.tail _ (.tail _ (.tail _ (.tail _ hq))))))))))))  , ctd, tn, dtd⟩ rfl rfl rfl ?_
      intro h8 F8 N8
      clear F7 N7 N5 F4
      rw [hR9] at N8
      simp only [List.cons_append] at N8
      (try dsimp only); (try k_fold)
      k_steps
      refine unhold ?_
      rename (Fr _ _ _ _) => F9
      rename (News _ _ _ _) => N9
      have N9r := regroup (ex := ex) hR9 N9
      have nI := offI (lm, listOf vm.toArray nm) (.head _)
      refine add_header_spec (l := lm) (dx := dx) (vs := vm) (n := nm) (tk0 := tkey) K9 F9 X9 T9 rfl (by decide) (N9 _ (.tail _ (.tail _ (.head _)))).1 (N9 _ (.tail _ (.tail _ (.tail _ (.head _))))).1
        (fun q hq => by rw [List.mem_singleton.mp hq]; exact N9 _ (.tail _ (.head _))) (Nat.ne_of_lt l3) (Nat.ne_of_lt (Nat.lt_trans l2 l3)) (by omega) (name_len _ hgn4) (txt_len _ _) (name_hit _ hgn4) (txt_hit _ hgi5 _ hgj5) ?_
      intro h10 tk10 b tb ub n10 kb hb hbt hbl
      obtain ⟨ob, hob, cob, nob, dob⟩ := hbt
      obtain ⟨F10, N10, neb⟩ := after_add2 F9 N9r kb hb hob hbl (fun e => nI e.symm) (fun q hq => by
        rcases List.mem_append.mp hq with hq | hq
        · exact Nat.ne_of_lt (hRlm q hq)
        · exact (hex q hq).1)
      rw [List.append_assoc] at N10
      clear F9 N9 N9r kb hb hob hbl
      (try dsimp only)
      k_steps
      refine ⟨.inl rfl, _, _, _, _, rfl, F10, N10, fun q hq => ?_, vm ++ [.ref b], n10, ex ++ [(b, ob)], rfl, ?_, fun q hq => ?_⟩
      · rcases List.mem_cons.mp hq with rfl | hq
        · exact offI (lm, listOf vm.toArray nm) (.head _)
        rcases List.mem_append.mp hq with hq | hq
        · exact offI _ (.tail _ (List.mem_append_left _ hq))
        rcases List.mem_append.mp hq with hq | hq
        · exact offI _ (.tail _ (List.mem_append_right _ hq))
        · rw [List.mem_singleton.mp hq]
          exact fun e => neb (I, oI) (.head _) e.symm
      · rw [htake, Option.toList, List.map_append]
        exact (rvm.mono fun _ q => List.mem_append_left _ q).snoc ⟨b, ob, tb, ub, nob, rfl, .inr (List.mem_append_right _ (.head _)), cob, dob⟩
      · rcases List.mem_append.mp hq with hq | hq
        · exact hex q hq
        · rw [List.mem_singleton.mp hq]
          exact ⟨fun e => neb (lm, listOf vm.toArray nm) (.tail _ (.head _)) e.symm, fun p hp e => neb p (.tail _ (.tail _ (List.mem_append_left _ hp))) e.symm⟩
    · rintro m1 nx' h7 tk7 ⟨vm, nm, ex, rfl, rvm, hex⟩ F7 N7
      rw [hgn, List.take_length] at rvm
      obtain ⟨nx2, hnx2⟩ : ∃ nx2, nx2 = nx ++ ex := ⟨_, rfl⟩
      have sub1 : ∀ q ∈ nx, q ∈ nx2 := fun q hq => by rw [hnx2]; exact List.mem_append_left _ hq
      have sub2 : ∀ q ∈ ex, q ∈ nx2 := fun q hq => by rw [hnx2]; exact List.mem_append_right _ hq
      have d1 := ne_tail hnx2 e1 fun q hq => (hex q hq).2 _ (by rw [hR9]; exact .tail _ (.tail _ (.head _)))
      have d2 := ne_tail hnx2 e2 fun q hq => (hex q hq).2 _ (by rw [hR9]; exact .tail _ (.tail _ (.tail _ (.head _))))
      have d3 := ne_tail hnx2 e3 fun q hq => (hex q hq).2 _ (by rw [hR9]; exact .tail _ (.tail _ (.tail _ (.tail _ (.head _)))))
      have d4 := ne_tail hnx2 e4 fun q hq => (hex q hq).2 _ (by rw [hR9]; exact .tail _ (.tail _ (.tail _ (.tail _ (.tail _ (.head _))))))
      have d5 := ne_tail hnx2 e5 fun q hq => (hex q hq).2 _ (by rw [hR9]; exact .tail _ (.tail _ (.tail _ (.tail _ (.tail _ (.tail _ (.head _)))))))
      have d6 := ne_tail hnx2 e6 fun q hq => (hex q hq).2 _ (by rw [hR9]; exact .tail _ (.tail _ (.tail _ (.tail _ (.tail _ (.tail _ (.tail _ (.head _))))))))
      have d7 := ne_tail hnx2 e7 fun q hq => (hex q hq).2 _ (by rw [hR9]; exact .tail _ (.tail _ (.tail _ (.tail _ (.tail _ (.tail _ (.tail _ (.tail _ (.head _)))))))))
      have mgl2 := sub1 _ mgl
      have rgs2 := rgs.mono sub1
      have rvm2 := rvm.mono sub2
      rw [hR9] at N7
      simp only [List.cons_append] at N7
      rw [← hnx2] at N7
      clear hex hnx2 sub1 sub2 rgs rvm mgl e1 e2 e3 e4 e5 e6 e7 hRlm hR9 N5 F4
      (try dsimp only)
      k_steps
      refine unhold ?_
      refine assign_K (by assumption) rfl (by with_unfolding_all rfl) (by with_unfolding_all rfl) (fun _ => rfl) (fun _ => rfl) rfl (by decide) rfl rfl ?_
      k_steps
      refine unhold ?_
      rename (Fr _ _ _ _) => F8
      rename (News _ _ _ _) => N8
      obtain ⟨R8, hR8, N8'⟩ := pickAll N8
      refine srcG_tuple rfl F8 N8' (.inr (by rw [hR8]; exact .head _)) rfl rfl (by rw [sizeLine_eq]; show 2 ≤ _; decide) ?_
      intro I h9 hI1 hI2 K oK hoK hIK
      refine ⟨JB K R8 gs,
        ⟨oK, [], none, rfl, hoK, rfl, (fun _ h => nomatch h), fun c v h => by simp at h⟩, ?_, ?_, ?_, ?_⟩
      · rintro i ys nw ⟨oK', more, v0, rfl, -⟩
        exact .inr (.tail _ (List.mem_append_right _ (by rw [hR8]; exact .head _)))
      · rintro i ys nw ⟨oK', more, v0, -, -, e, -⟩
        exact Nat.le_of_eq e
      · rintro C D i v oI oC m₂ ys nw h tk E' hID hDC hCK hi hP hJ hoC F N off
        obtain ⟨oK', more, v0, rfl, dK, hyl, hmK, hys⟩ := hJ
        have hRK : ∀ q ∈ R8, @Ne Nat q.1 K := fun q hq => Nat.ne_of_lt (Nat.lt_trans (hI1 q hq) hIK)
        refine store_compK F N dK rfl (by rfl) (by rfl) (Nat.ne_of_lt hIK) (Nat.ne_of_lt hCK) (Nat.ne_of_lt (Nat.lt_trans hDC hCK)) (fun q hq => (List.mem_append.mp hq).elim (hmK q) (hRK q)) ?_
        intro h1 oK1 F1 N1 dK1
        clear F N
        have hi2 : i < 2 := hi
        obtain ⟨cw, tkc, rfl, hcw⟩ : ∃ cw t, v = .str cw t ∧ ∀ k < 4, (Txt.lower (nameOf k) == cw) = (k / 2 == i) := by
          rcases (show i = 0 ∨ i = 1 by omega) with rfl | rfl
          · simp at hP; subst hP; exact ⟨_, _, rfl, fun k hk => (crowd_lower k hk).1⟩
          · simp at hP; subst hP; exact ⟨_, _, rfl, fun k hk => (crowd_lower k hk).2⟩
        refine comp_T F1 (by with_unfolding_all rfl) (by decide) rfl (by decide) ?_
        refine lcf_cell N1 rfl (.tail _ (.tail _ (.tail _ (.tail _ (List.mem_append_right _ (by rw [hR8]; exact .tail _ (.tail _ (.tail _ (.tail _ (.tail _ (.tail _ (.tail _ (.tail _ (.tail _ (.head _))))))))))))))) (by assumption) ?_ rfl rfl
        obtain ⟨R2, hR2, N1'⟩ := pickAll N1
        have glR : (gl, lst vg) ∈ R2 := by rw [hR2]; exact .tail _ (.tail _ (.tail _ (.tail _ (List.mem_append_right _ (by rw [hR8]; exact (.tail _ (.tail _ (.tail _ (.tail _ (.tail _ (.tail _ (.tail _ (.tail _ (.tail _ (.tail _ (.tail _ mgl2))))))))))))))))
        have nxR : ∀ q ∈ nx2, q ∈ R2 := fun q hq => by rw [hR2]; exact .tail _ (.tail _ (.tail _ (.tail _ (List.mem_append_right _ (by rw [hR8]; exact (.tail _ (.tail _ (.tail _ (.tail _ (.tail _ (.tail _ (.tail _ (.tail _ (.tail _ (.tail _ (.tail _ hq))))))))))))))))
        refine srcG_list rfl F1 N1' (.inr glR) rfl rfl (by rw [sizeLine_eq, hgn]; omega) ?_
        intro I2 h2 hI3 hI4
        refine ⟨fun j ys2 nw => nw = R2 ∧ StrsAre ys2 ((crowd (gs.take j) i).map fun q => txt q.1 q.2) ∧ ys2.length ≤ j, ⟨rfl, .nil, Nat.le_refl _⟩, ?_, fun j ys2 nw q => q.2.2, ?_, ?_⟩
        · rintro j ys2 nw ⟨rfl, -⟩
          exact .inr glR
        · rintro C2 D2 j v2 oI2 oC2 m3 ys2 nw h3 tk3 E2 hID2 hDC2 hj hP2 ⟨e9, hys2, hyl2⟩ hoC2 F3 N3 off3
          replace e9 := e9.symm
          subst e9
          obtain ⟨r, hri, ta, to, t3, t4, tn, rfl, hto, ctd, dtd⟩ := rgs2.get j v2 hP2
          rw [List.getElem?_map] at hri
          obtain ⟨g9, hgi, rfl⟩ := Option.map_eq_some_iff.mp hri
          obtain ⟨gn, gi, gj⟩ := g9
          obtain ⟨hgn4, hgi5, hgj5⟩ := hgok _ (List.mem_of_getElem? hgi)
          dsimp only at hgn4 hgi5 hgj5
          dsimp only [rowOf] at dtd
          have hoff := off3.mem
          have hII := (N3 _ (.head _)).1
          refine unpackN_ F3 N3 ⟨to, hto.get F3 N3 (fun q hq => .tail _ (.tail _ (.tail _ (nxR q hq)))), ctd, tn, dtd⟩ rfl rfl rfl ?_
          intro h4 F4 N4
          clear F3 N3
          (try dsimp only); (try k_fold)
          k_steps
          refine unhold ?_
          have n9 : ∀ q ∈ (D2, lst ys2) :: R2, q.1 ≠ C2 := fun q hq => by
            rcases List.mem_cons.mp hq with rfl | hq
            · exact Nat.ne_of_lt hDC2
            · exact (hoff q hq).2.1
          refine store_comp F4 N4 hoC2 rfl rfl (Nat.ne_of_lt (Nat.lt_trans hID2 hDC2)) n9 ?_
          intro h5 oC5 F5 N5 hoC5
          clear F4 N4
          (try dsimp only)
          k_steps
          refine unhold ?_
          refine store_comp F5 N5 hoC5 rfl rfl (Nat.ne_of_lt (Nat.lt_trans hID2 hDC2)) n9 ?_
          intro h6 oC6 F6 N6 hoC6
          clear F5 N5
          obtain ⟨m6, hm6⟩ : ∃ m6 : Str → Option Value, m6 = (fun z => if z = Str.ofString "text" then some (Value.str (txt gi gj) t4) else (fun z => if z = Str.ofString "name" then some (Value.str (nameOf gn) t3) else m3 z) z) := ⟨_, rfl⟩
          rw [← hm6] at hoC6
          have hn6 : m6 (Str.ofString "name") = some (Value.str (nameOf gn) t3) := by rw [hm6]; rfl
          have ht6 : m6 (Str.ofString "text") = some (Value.str (txt gi gj) t4) := by rw [hm6]; rfl
          clear hm6
          have hln := name_len _ hgn4
          rw [hR2] at N6
          (try dsimp only)
          k_steps
          · have e9 : (gn / 2 == i) = true := by rw [← hcw gn hgn4]; assumption
            refine ⟨_, _, oC6, R2, rfl, F6, by rw [hR2]; exact N6, off3, ⟨m6, hoC6⟩, rfl, ?_, by rw [List.length_append, List.length_singleton]; omega⟩
            rw [crowd_snoc gs i j hgi, if_pos e9]
            exact kct_snoc hys2
          · have e9 : ¬ (gn / 2 == i) = true := by rw [← hcw gn hgn4]; first | assumption | exact Bool.eq_false_iff.mp (by assumption)
            refine ⟨_, _, oC6, R2, rfl, F6, by rw [hR2]; exact N6, off3, ⟨m6, hoC6⟩, rfl, ?_, by omega⟩
            rw [crowd_snoc gs i j hgi, if_neg e9, List.append_nil]
            exact hys2
        · rintro D2 h3 tk3 ys2 nw F3 N3 o3 ⟨e9, hys2, hyl2⟩
          replace e9 := e9.symm
          subst e9
          have o3' := off1_mem o3
          rw [hR2] at N3 o3'
          rw [hgn, List.take_length] at hys2
          have dI := o3' (I, oI) (.head _)
          have dC := o3' (C, oC) (.tail _ (.head _))
          have dD := o3' (D, lst ys) (.tail _ (.tail _ (.head _)))
          have dKK := o3' (K, oK1) (.tail _ (.tail _ (.tail _ (.head _))))
          refine ⟨h3, tk3, oC, (K, oK1) :: (((D2, lst ys2) :: more) ++ R8), rfl, F3, fun q hq => N3 q ?_, ⟨⟨Nat.ne_of_gt hIK, Nat.ne_of_gt hCK, Nat.ne_of_gt (Nat.lt_trans hDC hCK)⟩, ⟨fun e => dI e.symm, fun e => dC e.symm, fun e => dD e.symm⟩, off.2⟩, ⟨m₂, hoC⟩, oK1, (D2, lst ys2) :: more, _, rfl, dK1, by rw [List.length_append, List.length_singleton]; omega, fun q hq => ?_, fun c v hv => ?_⟩
          · simp only [List.mem_cons, List.cons_append] at hq ⊢
            rcases hq with z | z | z | z | z | z <;> simp [z]
          · rcases List.mem_cons.mp hq with rfl | hq
            · exact fun e => dKK e.symm
            · exact hmK q hq
          · by_cases hci : c < i
            · rw [List.getElem?_append_left (by omega)] at hv
              obtain ⟨b, vs, e, hm, hr⟩ := hys c v hv
              exact ⟨b, vs, e, .tail _ hm, hr⟩
            · rw [List.getElem?_append_right (by omega)] at hv
              have e : c = i := by
                have := (List.getElem?_eq_some_iff.mp hv).1
                simp at this; omega
              subst e
              rw [hyl, Nat.sub_self] at hv
              simp at hv
              exact ⟨D2, ys2, hv.symm, .head _, hys2⟩
      · rintro D h1 tk1 ys nw ⟨oK', more, v0, rfl, dK, hyl, hmK, hys⟩ h10 tk10 F10 N10 o10
        obtain ⟨b0, b1, w0, w1, rfl, mb0, mb1, sw0, sw1⟩ := crowds_two hyl hys
        clear N8 N8'
        obtain ⟨nx3, hnx3⟩ : ∃ nx3, nx3 = nx2 := ⟨_, rfl⟩
        have N11 := News.perm N10 (news' := (D, lst [.ref b0, .ref b1]) :: (b0, lst w0) :: (b1, lst w1) :: R8) (fun q hq => by
          rcases List.mem_cons.mp hq with rfl | hq
          · exact .head _
          rcases List.mem_cons.mp hq with rfl | hq
          · exact .tail _ (.tail _ (List.mem_append_left _ mb0))
          rcases List.mem_cons.mp hq with rfl | hq
          · exact .tail _ (.tail _ (List.mem_append_left _ mb1))
          · exact .tail _ (.tail _ (List.mem_append_right _ hq)))
        rw [hR8] at N11
        clear N10 o10
        (try dsimp only)
        k_steps
        refine unhold ?_
        rename (Fr _ _ _ _) => F12
        refine For_turns F12 ?_ (by intro _; rfl) ?_
        · k_steps
          refine unhold ?_
          rename (Fr _ _ _ _) => F12
          rename (News _ _ _ _) => N12
          obtain ⟨T13, n1, n0, R13, eT, en1, en0, hR13, N13⟩ := pick3 N12
          subst eT en1 en0
          refine iter_Mt (vs := [.ref n0, .ref n1]) rfl rfl rfl F12 N13 (fun _ m nx' => (∃ u, m = MC D u) ∧ nx' = R13) (fun _ _ nx e => .inr (by rw [e.2, hR13]; exact .head _)) ⟨⟨_, mc_eq rfl⟩, rfl⟩ ?_ ?_
          · rintro i v m1 nx' h13 tk13 I13 oI13 hv ⟨⟨u, rfl⟩, e13⟩ offI ltI LI F13 N14
            replace e13 := e13.symm
            subst e13
            clear N12 N13 F12
            rw [hR13] at N14
            rcases i with _ | _ | i
            · obtain rfl : v = .ref n0 := by simpa using hv.symm
              (try dsimp only); (try k_fold)
              k_steps
              refine unhold ?_
              rename (Fr _ _ _ _) => F15
              rename (News _ _ _ _) => N15
              obtain ⟨R15, hR15, N15'⟩ := pickAll N15
              refine LCg.CompSrc.ledger rfl F15 N15' (by rw [hR15]; k_mem) (by rw [sizeLine_eq]; show 2 ≤ _; decide) ?_
              intro gg
              refine rest_fold (fun c v ex => ∃ r ys, v = .ref r ∧ (r, lst ys) ∈ ex ∧ StrsAre ys ((crowd gs c).map fun (q : Nat × Nat) => txt q.1 q.2)) (fun c v ex ex' hs q => let ⟨r, ys, e, hm, z⟩ := q; ⟨r, ys, e, hs _ hm, z⟩) ?_ ?_
              · intro j v9 I9 oI9 C9 oC9 D9 m9 ys9 ex9 h14 tk14 E14 hj hP9 hC9 hx9 F9 N9 off9 ne9
                replace N9 := swap3 N9
                rw [hR15] at N9
                simp only [List.cons_append] at N9
                rcases j with _ | _ | j
                · obtain rfl : v9 = .str (Str.ofString "a") _ := (Option.some.inj hP9).symm
                  (try dsimp only); (try k_fold)
                  k_steps
                  refine unhold ?_
                  rename (Fr _ _ _ _) => F16
                  rename (News _ _ _ _) => N16
                  rename (LCg.Off1 _ _) => o16
                  rename (StrsAre _ _) => s16
                  rw [crowd_rows hgok fun k hk => (lower_two k hk).1] at s16
                  exact elt_end F16 N16 (fun q hq => by
                    rcases List.mem_append.mp hq with hq | hq
                    · exact tail_right hR15 hq
                    · exact tail_left hR15 hq) o16 off9 (.inr ⟨_, .tail _ (List.mem_append_right _ (by rw [hR15]; k_mem)), rfl, _, rfl⟩) ⟨_, _, rfl, .head _, s16⟩
                · obtain rfl : v9 = .str (Str.ofString "ab") _ := (Option.some.inj hP9).symm
                  (try dsimp only); (try k_fold)
                  k_steps
                  refine unhold ?_
                  rename (Fr _ _ _ _) => F16
                  rename (News _ _ _ _) => N16
                  rename (LCg.Off1 _ _) => o16
                  rename (StrsAre _ _) => s16
                  rw [crowd_rows hgok fun k hk => (lower_two k hk).2.1] at s16
                  exact elt_end F16 N16 (fun q hq => by
                    rcases List.mem_append.mp hq with hq | hq
                    · exact tail_right hR15 hq
                    · exact tail_left hR15 hq) o16 off9 (.inr ⟨_, .tail _ (List.mem_append_right _ (by rw [hR15]; k_mem)), rfl, _, rfl⟩) ⟨_, _, rfl, .head _, s16⟩
                · exact absurd hj (by show ¬ _ < 2; omega)
              · intro ys9 ex9 hyl9 hR9
                refine fun D9 h14 tk14 F9 N9 o9 => ?_
                obtain ⟨r0, r1, u0, u1, rfl, mr0, mr1, su0, su1⟩ := crowds_two hyl9 hR9
                have N18 := News.perm N9 (news' := (D9, lst [.ref r0, .ref r1]) :: R15) (fun q hq => by
                  rcases List.mem_cons.mp hq with rfl | hq
                  · exact .head _
                  · exact .tail _ (List.mem_append_right _ hq))
                obtain ⟨as9, ra9⟩ := two_reads N9 (.tail _ (List.mem_append_left _ mr0)) (.tail _ (List.mem_append_left _ mr1)) su0 su1
                have hD0 := N9 (D9, lst [.ref r0, .ref r1]) (.head _)
                rw [hR15] at N18
                clear o9
                (try dsimp only)
                k_steps
                refine unhold ?_
                obtain ⟨bs9, rb9⟩ := two_reads N18 (by k_mem) (by k_mem) sw0 sw1
                have hD1 := N18 (D, lst [.ref b0, .ref b1]) (by k_mem)
                have okd : ∀ d ∈ ([.list (((crowd gs 0).map fun q => txt q.1 q.2).map Dat.str), .list (((crowd gs 1).map fun q => txt q.1 q.2).map Dat.str)] : List Dat), kqdOk 8 d = true := fun d hd => by
                  simp only [List.mem_cons, List.not_mem_nil, or_false] at hd
                  rcases hd with rfl | rfl
                  · exact txtD_ok fun q hq => crowd_ok hgok hq
                  · exact txtD_ok fun q hq => crowd_ok hgok hq
                refine ne_datH hD0.1 rfl rfl ra9 hD1.1 rfl rfl rb9 okd okd (by show callerA.units + 3 + 64 < cLine; decide) rfl ?_
                (try dsimp only)
                k_steps
                refine ⟨.inl rfl, _, _, _, R13, rfl, by assumption, News.perm N18 (fun q hq => ?_), offI, ⟨_, mc_eq rfl⟩, rfl⟩
                rcases List.mem_cons.mp hq with rfl | hq
                · exact .tail _ (.head _)
                · rw [hR13] at hq; exact .tail _ (.tail _ hq)
            · obtain rfl : v = .ref n1 := by simpa using hv.symm
              (try dsimp only); (try k_fold)
              k_steps
              refine unhold ?_
              rename (Fr _ _ _ _) => F15
              rename (News _ _ _ _) => N15
              obtain ⟨R15, hR15, N15'⟩ := pickAll N15
              refine LCg.CompSrc.ledger rfl F15 N15' (by rw [hR15]; k_mem) (by rw [sizeLine_eq]; show 2 ≤ _; decide) ?_
              intro gg
              refine rest_fold (fun c v ex => ∃ r ys, v = .ref r ∧ (r, lst ys) ∈ ex ∧ StrsAre ys ((crowd gs c).map fun (q : Nat × Nat) => txt q.1 q.2)) (fun c v ex ex' hs q => let ⟨r, ys, e, hm, z⟩ := q; ⟨r, ys, e, hs _ hm, z⟩) ?_ ?_
              · intro j v9 I9 oI9 C9 oC9 D9 m9 ys9 ex9 h14 tk14 E14 hj hP9 hC9 hx9 F9 N9 off9 ne9
                replace N9 := swap3 N9
                rw [hR15] at N9
                simp only [List.cons_append] at N9
                rcases j with _ | _ | j
                · obtain rfl : v9 = .str (Str.ofString "A") _ := (Option.some.inj hP9).symm
                  (try dsimp only); (try k_fold)
                  k_steps
                  refine unhold ?_
                  rename (Fr _ _ _ _) => F16
                  rename (News _ _ _ _) => N16
                  rename (LCg.Off1 _ _) => o16
                  rename (StrsAre _ _) => s16
                  rw [crowd_rows hgok fun k hk => (lower_two k hk).2.2.1] at s16
                  exact elt_end F16 N16 (fun q hq => by
                    rcases List.mem_append.mp hq with hq | hq
                    · exact tail_right hR15 hq
                    · exact tail_left hR15 hq) o16 off9 (.inr ⟨_, .tail _ (List.mem_append_right _ (by rw [hR15]; k_mem)), rfl, _, rfl⟩) ⟨_, _, rfl, .head _, s16⟩
                · obtain rfl : v9 = .str (Str.ofString "AB") _ := (Option.some.inj hP9).symm
                  (try dsimp only); (try k_fold)
                  k_steps
                  refine unhold ?_
                  rename (Fr _ _ _ _) => F16
                  rename (News _ _ _ _) => N16
                  rename (LCg.Off1 _ _) => o16
                  rename (StrsAre _ _) => s16
                  rw [crowd_rows hgok fun k hk => (lower_two k hk).2.2.2] at s16
                  exact elt_end F16 N16 (fun q hq => by
                    rcases List.mem_append.mp hq with hq | hq
                    · exact tail_right hR15 hq
                    · exact tail_left hR15 hq) o16 off9 (.inr ⟨_, .tail _ (List.mem_append_right _ (by rw [hR15]; k_mem)), rfl, _, rfl⟩) ⟨_, _, rfl, .head _, s16⟩
                · exact absurd hj (by show ¬ _ < 2; omega)
              · intro ys9 ex9 hyl9 hR9
                refine fun D9 h14 tk14 F9 N9 o9 => ?_
                obtain ⟨r0, r1, u0, u1, rfl, mr0, mr1, su0, su1⟩ := crowds_two hyl9 hR9
                have N18 := News.perm N9 (news' := (D9, lst [.ref r0, .ref r1]) :: R15) (fun q hq => by
                  rcases List.mem_cons.mp hq with rfl | hq
                  · exact .head _
                  · exact .tail _ (List.mem_append_right _ hq))
                obtain ⟨as9, ra9⟩ := two_reads N9 (.tail _ (List.mem_append_left _ mr0)) (.tail _ (List.mem_append_left _ mr1)) su0 su1
                have hD0 := N9 (D9, lst [.ref r0, .ref r1]) (.head _)
                rw [hR15] at N18
                clear o9
                (try dsimp only)
                k_steps
                refine unhold ?_
                obtain ⟨bs9, rb9⟩ := two_reads N18 (by k_mem) (by k_mem) sw0 sw1
                have hD1 := N18 (D, lst [.ref b0, .ref b1]) (by k_mem)
                have okd : ∀ d ∈ ([.list (((crowd gs 0).map fun q => txt q.1 q.2).map Dat.str), .list (((crowd gs 1).map fun q => txt q.1 q.2).map Dat.str)] : List Dat), kqdOk 8 d = true := fun d hd => by
                  simp only [List.mem_cons, List.not_mem_nil, or_false] at hd
                  rcases hd with rfl | rfl
                  · exact txtD_ok fun q hq => crowd_ok hgok hq
                  · exact txtD_ok fun q hq => crowd_ok hgok hq
                refine ne_datH hD0.1 rfl rfl ra9 hD1.1 rfl rfl rb9 okd okd (by show callerA.units + 3 + 64 < cLine; decide) rfl ?_
                (try dsimp only)
                k_steps
                refine ⟨.inl rfl, _, _, _, R13, rfl, by assumption, News.perm N18 (fun q hq => ?_), offI, ⟨_, mc_eq rfl⟩, rfl⟩
                rcases List.mem_cons.mp hq with rfl | hq
                · exact .tail _ (.head _)
                · rw [hR13] at hq; exact .tail _ (.tail _ hq)
            · simp at hv
          · rintro m2 nx4 h13 tk13 ⟨⟨u, rfl⟩, e13⟩ F13 N14
            replace e13 := e13.symm
            subst e13
            rw [hR13] at N14
            clear N12 N13 F12 hR13
            (try dsimp only)
            k_steps
            refine unhold ?_
            refine LCg.Assign_ListComp_U (F₀ := by k_asm) (by rfl) (by with_unfolding_all rfl) (by with_unfolding_all rfl) (by decide) (by rfl) (by decide) (by rfl) (by rfl) (by rfl) ?_
            k_steps
            refine unhold ?_
            rename (Fr _ _ _ _) => F15
            rename (News _ _ _ _) => N15
            obtain ⟨R15, hR15, N15'⟩ := pickAll N15
            refine LCg.CompSrc.ledger rfl F15 N15' (by rw [hR15]; k_mem) (by rw [sizeLine_eq]; show 2 ≤ _; decide) ?_
            intro gg
            refine rest_fold (fun c v _ => ∃ t, v = .int ((cP c gs : Nat) : Int) t) (fun c v ex ex' hs q => q) ?_ ?_
            · intro j v9 I9 oI9 C9 oC9 D9 m9 ys9 ex9 h14 tk14 E14 hj hP9 hC9 hx9 F9 N9 off9 ne9
              replace N9 := swap3 N9
              rw [hR15] at N9
              simp only [List.cons_append] at N9
              rcases j with _ | _ | j
              · obtain rfl : v9 = .ref b0 := (Option.some.inj hP9).symm
                (try dsimp only); (try k_fold)
                k_steps
                refine unhold ?_
                rename (Fr _ _ _ _) => F16
                rename (News _ _ _ _) => N16
                refine len_lst (N16 (b0, lst w0) (by k_mem)).1 ((StrsAre.length sw0).trans ((List.length_map _).trans (crowd_eq gs 0))) (by have := cP_len gs 0; omega) ?_
                exact elt_same F16 N16 (fun q hq => by
                    rcases List.mem_append.mp hq with hq | hq
                    · exact tail_right hR15 hq
                    · exact tail_left hR15 hq) off9 (.inr ⟨_, List.mem_append_right _ (by rw [hR15]; k_mem), rfl, _, rfl⟩) ⟨_, rfl⟩
              · obtain rfl : v9 = .ref b1 := (Option.some.inj hP9).symm
                (try dsimp only); (try k_fold)
                k_steps
                refine unhold ?_
                rename (Fr _ _ _ _) => F16
                rename (News _ _ _ _) => N16
                refine len_lst (N16 (b1, lst w1) (by k_mem)).1 ((StrsAre.length sw1).trans ((List.length_map _).trans (crowd_eq gs 1))) (by have := cP_len gs 1; omega) ?_
                exact elt_same F16 N16 (fun q hq => by
                    rcases List.mem_append.mp hq with hq | hq
                    · exact tail_right hR15 hq
                    · exact tail_left hR15 hq) off9 (.inr ⟨_, List.mem_append_right _ (by rw [hR15]; k_mem), rfl, _, rfl⟩) ⟨_, rfl⟩
              · exact absurd hj (by show ¬ _ < 2; omega)
            · intro ys9 ex9 hyl9 hR9
              obtain ⟨t0, t1, rfl⟩ := two_ints hyl9 hR9
              refine fun D9 h14 tk14 F9 N9 o9 => ?_
              have N18 := News.perm N9 (news' := (D9, lst [.int ((cP 0 gs : Nat) : Int) t0, .int ((cP 1 gs : Nat) : Int) t1]) :: R15) (fun q hq => by
                rcases List.mem_cons.mp hq with rfl | hq
                · exact .head _
                · exact .tail _ (List.mem_append_right _ hq))
              rw [hR15] at N18
              clear o9 N9 N15 N15' F15 hR15
              (try dsimp only)
              k_steps
              refine unhold ?_
              rename (Fr _ _ _ _) => F20
              refine For_turns F20 ?_ (by intro _; rfl) ?_
              · k_steps
                refine unhold ?_
                rename (Fr _ _ _ _) => F21
                rename (News _ _ _ _) => N21
                rename (IsRange _ _ _ _ _ _ _ _) => hr
                replace hr : IsRange _ _ 0 (((cP 0 gs : Nat) : Int) + 1) 1 _ _ _ := hr
                have hc0 := cP_len gs 0
                have hc1 := cP_len gs 1
                obtain ⟨h90, h91⟩ : cP 0 gs ≤ 9 ∧ cP 1 gs ≤ 9 := by rw [hgs]; exact gsOf_cP _
                rename (@LT.lt Nat _ D9 _ ∧ _) => lR9
                obtain q3 := tail_lt lR9.2.2.2.2.2.2.2.2.2.2.2.2.2.2.2.2.2.2
                obtain ⟨DR, D8, eDR, eD8, N22⟩ := pick2 N21
                subst eDR eD8
                obtain ⟨Rf, hRf, N23⟩ := pickXY N22
                clear N22 N21
                refine iter_Mr rfl hr (range_low (Nat.le_trans hc0 (Nat.le_trans hglen (by decide)))) (n := cP 0 gs + 1) (range_up _) F21 N23
                  (JO D D8 DR (s9.heap.objs.size + 1 + 1 + 1) (s9.heap.objs.size + 1 + 1 + 1 + 1) Rf gs)
                  ⟨⟨_, mr_eq rfl rfl rfl⟩, _, _, [], 0, [], [], rfl, ⟨_, by assumption⟩, ⟨_, by assumption⟩, (RestsSt.start fun q => Nat.not_lt_zero _).conv (fun _ _ p => p) (Nat.zero_le _), fun _ h => nomatch h⟩ ?_ ?_
                · rintro i t m1 nx' h15 tk15 I15 oI15 hi ⟨⟨u1, rfl⟩, ox, oy, rs, nR, ps, ex, rfl, ⟨vx, dx1⟩, ⟨vy, dy1⟩, RS, hex⟩ offI ltI LI F24 N24
                  rw [Int.zero_add]
                  obtain ⟨nx3, hnx3⟩ : ∃ nx3, nx3 = nx2 ++ ex := ⟨_, rfl⟩
                  have c1 := ne_tail2 hnx3 d4 fun q hq => (hex q hq).1
                  have c2 := ne_tail2 hnx3 d3 fun q hq => (hex q hq).2.1
                  have c3 := ne_tail2 hnx3 q3 fun q hq => (hex q hq).2.2.1
                  have lx := ltI _ (.head _)
                  have ly := ltI _ (.tail _ (.head _))
                  have lR := ltI _ (.tail _ (.tail _ (.head _)))
                  dsimp only at lx ly lR
                  rw [hRf] at N24
                  simp only [List.cons_append] at N24
                  rw [← hnx3] at N24
                  clear N23 F21
                  (try dsimp only)
                  have x1 := cell_ne N24 dx1 (by k_mem) (a := D8) (.tail _ (.tail _ (.tail _ (.tail _ (.head _)))))
                  have x2 := cell_ne N24 dx1 (by k_mem) (a := D) (.tail _ (.tail _ (.tail _ (.tail _ (.tail _ (.head _))))))
                  have x3 := cell_ne N24 dx1 (by k_mem) (a := b0) (.tail _ (.tail _ (.tail _ (.tail _ (.tail _ (.tail _ (.head _)))))))
                  have x4 := cell_ne N24 dx1 (by k_mem) (a := b1) (.tail _ (.tail _ (.tail _ (.tail _ (.tail _ (.tail _ (.tail _ (.head _))))))))
                  have y1 := cell_ne N24 dy1 (by k_mem) (a := D8) (.tail _ (.tail _ (.tail _ (.tail _ (.head _)))))
                  have y2 := cell_ne N24 dy1 (by k_mem) (a := D) (.tail _ (.tail _ (.tail _ (.tail _ (.tail _ (.head _))))))
                  have y3 := cell_ne N24 dy1 (by k_mem) (a := b0) (.tail _ (.tail _ (.tail _ (.tail _ (.tail _ (.tail _ (.head _)))))))
                  have y4 := cell_ne N24 dy1 (by k_mem) (a := b1) (.tail _ (.tail _ (.tail _ (.tail _ (.tail _ (.tail _ (.tail _ (.head _))))))))
                  (try dsimp only); (try k_fold)
                  k_steps
                  refine unhold ?_
                  rename (Fr _ _ _ _) => F25
                  refine For_turns F25 ?_ (by intro _; rfl) ?_
                  · k_steps
                    refine unhold ?_
                    rename (Fr _ _ _ _) => F26
                    rename (News _ _ _ _) => N26
                    rename (IsRange _ _ _ _ _ _ _ _) => hr2
                    replace hr2 : IsRange _ _ 0 (((cP 1 gs : Nat) : Int) + 1) 1 _ _ _ := hr2
                    rename (Obj.data _ = Data.cell (some (Value.int _ _))) => dx2
                    obtain ⟨R26, hR26, N27⟩ := pickIn N26
                    refine iter_Mr rfl hr2 (range_low (Nat.le_trans hc1 (Nat.le_trans hglen (by decide)))) (n := cP 1 gs + 1) (range_up _) F26 N27
                      (JI D D8 DR (s9.heap.objs.size + 1 + 1 + 1) (s9.heap.objs.size + 1 + 1 + 1 + 1) I15 oI15 _ R26 ex gs i)
                      ⟨⟨_, mr_eq rfl rfl rfl⟩, _, rs, nR, ps, [], rfl, ⟨_, dy1⟩, (by rw [List.append_nil]; exact RS.conv (fun q _ p => p.resolve_right fun z => Nat.not_lt_zero _ z.2) (Nat.le_refl _)), fun _ h => nomatch h⟩ ?_ ?_
                    · rintro j t2 m2 nx4 h16 tk16 I16 oI16 hj ⟨⟨u2, rfl⟩, oy2, rs2, nR2, ps2, ex2, rfl, ⟨vy2, dy2⟩, RS2, hex2⟩ offI2 ltI2 LI2 F28 N28
                      rw [Int.zero_add]
                      obtain ⟨nx5, hnx5⟩ : ∃ nx5, nx5 = nx3 ++ ex2 := ⟨_, rfl⟩
                      have k2 := ne_tail2 hnx5 c2 fun q hq => (hex2 q hq).2.2.1
                      have k3 := ne_tail2 hnx5 c3 fun q hq => (hex2 q hq).2.2.2.1
                      have lz0 := ltI2 _ (.head _)
                      have lz1 := ltI2 _ (.tail _ (.head _))
                      have lz2 := ltI2 _ (.tail _ (.tail _ (.head _)))
                      have lz3 := ltI2 _ (.tail _ (.tail _ (.tail _ (.head _))))
                      dsimp only at lz0 lz1 lz2 lz3
                      rw [hR26] at N28
                      simp only [List.cons_append] at N28
                      rw [← hnx5] at N28
                      clear N27 F26
                      (try dsimp only); (try k_fold)
                      k_steps
                      refine unhold ?_
                      rename (Fr _ _ _ _) => F30
                      rename (News _ _ _ _) => N30
                      obtain ⟨R30, hR30, N30'⟩ := pickAll N30
                      refine LCg.CompSrc.ledger rfl F30 N30' (by rw [hR30]; k_mem) (by rw [sizeLine_eq]; show 2 ≤ _; decide) ?_
                      intro gg
                      refine rest_fold (fun c v _ => ∃ t, v = .int ((come gs c (i, j) : Nat) : Int) t) (fun c v ex ex' hs q => q) ?_ ?_
                      · intro jj v9 I9 oI9 C9 oC9 D9 m9 ys9 ex9 h14 tk14 E14 hj9 hP9 hC9 hx9 F9 N9 off9 ne9
                        replace N9 := swap3 N9
                        rw [hR30] at N9
                        simp only [List.cons_append] at N9
                        rcases jj with _ | _ | jj
                        · obtain rfl : v9 = .ref b0 := (Option.some.inj hP9).symm
                          (try dsimp only); (try k_fold)
                          k_steps
                          refine unhold ?_
                          rename (Fr _ _ _ _) => F31
                          rename (News _ _ _ _) => N31
                          have hyl := StrsAre.length sw0
                          rw [List.length_map] at hyl
                          have hcl := crowd_eq gs 0
                          refine LCt.CompSrcT.ledger rfl F31 N31 (by k_mem) (by rw [List.size_toArray, sizeLine_eq]; omega) ?_
                          intro gg2
                          refine rest_texts (fun (q : Nat × Nat) v => ∃ t, v = .str (txt q.1 q.2) t ∧ q.1 < 5 ∧ q.2 < 5) (fun q => fitsP q (i, j)) (fun q => txt q.1 q.2) (ks := crowd gs 0) (by rw [List.size_toArray]; exact hyl.symm) (fun i v _ hv => texts_at hgok sw0 i v (by simpa using hv)) ?_ ?_
                          · intro q v I oI C oC Dq m₂ ys2 h' tk E' hq hv hC hx' F' N' off ne
                            obtain ⟨tq, rfl, hq1, hq2⟩ := hv
                            obtain ⟨qi, qj⟩ := q
                            dsimp only at hq1 hq2 hx'
                            (try dsimp only); (try k_fold)
                            k_steps
                            · refine unhold ?_
                              rename (Fr _ _ _ _) => F32
                              rename (News _ _ _ _) => N32
                              rename (fitsP _ _ = true) => hf
                              exact CompEnd.intro F32 N32 _ (fun p hp => .tail _ hp) off (.inr ⟨_, by k_mem, rfl, _, rfl⟩) ⟨rfl, hf.symm, fun _ => ⟨_, rfl⟩⟩
                            · refine unhold ?_
                              rename (Fr _ _ _ _) => F32
                              rename (News _ _ _ _) => N32
                              rename (fitsP _ _ = false) => hf
                              exact CompEnd.intro F32 N32 _ (fun p hp => .tail _ hp) off (.inr ⟨_, by k_mem, rfl, _, rfl⟩) ⟨rfl, hf.symm, fun e => absurd (e.symm.trans hf) (by decide)⟩
                          · intro ys2 hys2
                            refine fun D2 h2 tk2 F2 N2 o2 => ?_
                            clear o2
                            (try dsimp only)
                            k_steps
                            refine unhold ?_
                            rename (Fr _ _ _ _) => F33
                            rename (News _ _ _ _) => N33
                            refine len_lst (k := come gs 0 (i, j)) (N33 (D2, lst ys2) (.head _)).1 (by rw [StrsAre.length hys2, List.length_map]; rfl) (by have := come_le gs 0 (i, j); omega) ?_
                            exact elt_same F33 (fun q hq => N33 q (.tail _ hq)) (fun q hq => by
                              rcases List.mem_append.mp hq with hq | hq
                              · exact tail_right hR30 hq
                              · exact tail_left hR30 hq) off9 (.inr ⟨_, List.mem_append_right _ (by rw [hR30]; k_mem), rfl, _, rfl⟩) ⟨_, rfl⟩
                        · obtain rfl : v9 = .ref b1 := (Option.some.inj hP9).symm
                          (try dsimp only); (try k_fold)
                          k_steps
                          refine unhold ?_
                          rename (Fr _ _ _ _) => F31
                          rename (News _ _ _ _) => N31
                          have hyl := StrsAre.length sw1
                          rw [List.length_map] at hyl
                          have hcl := crowd_eq gs 1
                          refine LCt.CompSrcT.ledger rfl F31 N31 (by k_mem) (by rw [List.size_toArray, sizeLine_eq]; omega) ?_
                          intro gg2
                          refine rest_texts (fun (q : Nat × Nat) v => ∃ t, v = .str (txt q.1 q.2) t ∧ q.1 < 5 ∧ q.2 < 5) (fun q => fitsP q (i, j)) (fun q => txt q.1 q.2) (ks := crowd gs 1) (by rw [List.size_toArray]; exact hyl.symm) (fun i v _ hv => texts_at hgok sw1 i v (by simpa using hv)) ?_ ?_
                          · intro q v I oI C oC Dq m₂ ys2 h' tk E' hq hv hC hx' F' N' off ne
                            obtain ⟨tq, rfl, hq1, hq2⟩ := hv
                            obtain ⟨qi, qj⟩ := q
                            dsimp only at hq1 hq2 hx'
                            (try dsimp only); (try k_fold)
                            k_steps
                            · refine unhold ?_
                              rename (Fr _ _ _ _) => F32
                              rename (News _ _ _ _) => N32
                              rename (fitsP _ _ = true) => hf
                              exact CompEnd.intro F32 N32 _ (fun p hp => .tail _ hp) off (.inr ⟨_, by k_mem, rfl, _, rfl⟩) ⟨rfl, hf.symm, fun _ => ⟨_, rfl⟩⟩
                            · refine unhold ?_
                              rename (Fr _ _ _ _) => F32
                              rename (News _ _ _ _) => N32
                              rename (fitsP _ _ = false) => hf
                              exact CompEnd.intro F32 N32 _ (fun p hp => .tail _ hp) off (.inr ⟨_, by k_mem, rfl, _, rfl⟩) ⟨rfl, hf.symm, fun e => absurd (e.symm.trans hf) (by decide)⟩
                          · intro ys2 hys2
                            refine fun D2 h2 tk2 F2 N2 o2 => ?_
                            clear o2
                            (try dsimp only)
                            k_steps
                            refine unhold ?_
                            rename (Fr _ _ _ _) => F33
                            rename (News _ _ _ _) => N33
                            refine len_lst (k := come gs 1 (i, j)) (N33 (D2, lst ys2) (.head _)).1 (by rw [StrsAre.length hys2, List.length_map]; rfl) (by have := come_le gs 1 (i, j); omega) ?_
                            exact elt_same F33 (fun q hq => N33 q (.tail _ hq)) (fun q hq => by
                              rcases List.mem_append.mp hq with hq | hq
                              · exact tail_right hR30 hq
                              · exact tail_left hR30 hq) off9 (.inr ⟨_, List.mem_append_right _ (by rw [hR30]; k_mem), rfl, _, rfl⟩) ⟨_, rfl⟩
                        · exact absurd hj9 (by show ¬ _ < 2; omega)
                      · intro ys9 ex9 hyl9 hR9
                        obtain ⟨ta, tb, rfl⟩ := two_intsF (f := fun c => come gs c (i, j)) hyl9 hR9
                        refine fun D9 h14 tk14 F9 N9 o9 => ?_
                        have N18 := News.perm N9 (news' := (D9, lst [.int ((come gs 0 (i, j) : Nat) : Int) ta, .int ((come gs 1 (i, j) : Nat) : Int) tb]) :: R30) (fun q hq => by
                          rcases List.mem_cons.mp hq with rfl | hq
                          · exact .head _
                          · exact .tail _ (List.mem_append_right _ hq))
                        obtain nDR : @Ne Nat DR D9 := off1_mem o9 (DR, listOf rs2.toArray nR2) (List.mem_append_right _ (by rw [hR30]; k_mem))
                        rw [hR30] at N18
                        obtain hsz : rs2.length ≤ 200 := by
                          have z1 := RS2.len
                          have z2 := RS2.small
                          have z3 : i * (cP 1 gs + 1) ≤ 9 * 10 := Nat.mul_le_mul (by omega) (by omega)
                          omega
                        clear o9 N9 N30 N30' F30 hR30
                        (try dsimp only)
                        k_steps
                        · rename (Fr _ _ _ _) => F40
                          rename (News _ _ _ _) => N40
                          rename (@LT.lt Nat _ _ _ ∧ _) => l40
                          rename (@Eq (List Int) _ _) => e40
                          rename (Obj.data _ = Data.cell (some (Value.int _ _))) => dy4
                          simp only [List.push_toArray] at N40
                          obtain ⟨N41, o41, x41⟩ := rests_yes N40 l40 (R26 := R26) (ex2 := ex2) (by rw [hR26, hnx5]; rfl) offI2 hex2
                          refine ⟨.inl rfl, _, _, _, _, rfl, F40, N41, o41, ⟨_, mr_eq rfl rfl rfl⟩, _, _, _, _, _, rfl, ⟨_, dy4⟩, RS2.snoc (rest_of e40) (fun q hq => ?_) (fun q hq => ?_) (List.mem_append_right _ (List.mem_append_right _ (.head _))), x41⟩
                          · rcases hq with hq | ⟨hq, hq'⟩
                            · exact .inl (.inl hq)
                            · rcases Nat.lt_or_eq_of_le (Nat.le_of_lt_succ hq') with z | z
                              · exact .inl (.inr ⟨hq, z⟩)
                              · exact .inr (Prod.ext hq z)
                          · rcases List.mem_append.mp hq with hq | hq
                            · exact List.mem_append_left _ hq
                            · exact List.mem_append_right _ (List.mem_append_left _ hq)
                        · rename (Fr _ _ _ _) => F40
                          rename (News _ _ _ _) => N40
                          rename (¬ @Eq (List Int) _ _) => e40
                          rename (Obj.data _ = Data.cell (some (Value.int _ _))) => dy4
                          obtain ⟨N41, o41⟩ := rests_no N40 (R26 := R26) (ex2 := ex2) (by rw [hR26, hnx5]; rfl) offI2
                          refine ⟨.inl rfl, _, _, _, _, rfl, F40, N41, o41, ⟨_, mr_eq rfl rfl rfl⟩, _, _, _, _, _, rfl, ⟨_, dy4⟩, RS2.skip (rest_not e40) (fun q hq => ?_), hex2⟩
                          rcases hq with hq | ⟨hq, hq'⟩
                          · exact .inl (.inl hq)
                          · rcases Nat.lt_or_eq_of_le (Nat.le_of_lt_succ hq') with z | z
                            · exact .inl (.inr ⟨hq, z⟩)
                            · exact .inr (Prod.ext hq z)
                    · rintro m2 nx4 h16 tk16 ⟨⟨u2, rfl⟩, oy2, rs2, nR2, ps2, ex2, rfl, ⟨vy2, dy2⟩, RS2, hex2⟩ F28 N28
                      (try dsimp only)
                      k_steps
                      obtain ⟨N41, o41, x41⟩ := rests_row (R26 := R26) (Rf := Rf) (ex := ex) (by rw [hR26, hRf, hnx3]; rfl) N28 offI hex hex2
                      refine ⟨.inl rfl, _, _, _, _, rfl, F28, N41, o41, ⟨_, mr_eq rfl rfl rfl⟩, _, _, _, _, _, _, rfl, ⟨_, dx2⟩, ⟨_, dy2⟩, RS2.conv (fun q hr hq => ?_) (Nat.le_of_eq (Nat.succ_mul _ _).symm), x41⟩
                      rcases Nat.lt_or_eq_of_le (Nat.le_of_lt_succ hq) with z | z
                      · exact .inl z
                      · exact .inr ⟨z, Nat.lt_succ_of_le (whole_rest hr).2⟩
                  · k_steps
                · rintro m2 nx4 h15 tk15 ⟨⟨u1, rfl⟩, ox, oy, rs, nR, ps, ex, rfl, ⟨vx, dx1⟩, ⟨vy, dy1⟩, RS, hex⟩ F24 N24
                  clear N23 F21
                  (try dsimp only)
                  obtain ⟨nx9, hnx9⟩ : ∃ nx9, nx9 = nx2 ++ ex := ⟨_, rfl⟩
                  have N25 := pickEnd N24 hRf hnx9
                  have t5 := ne_tail hnx9 d2 fun q hq => (hex q hq).2.2.2 _ (by rw [hRf]; exact .tail _ (.tail _ (.tail _ (.tail _ (.tail _ (.tail _ (.tail _ (.tail _ (.head _)))))))))
                  have t6 := ne_tail hnx9 d1 fun q hq => (hex q hq).2.2.2 _ (by rw [hRf]; exact .tail _ (.tail _ (.tail _ (.tail _ (.tail _ (.tail _ (.tail _ (.head _))))))))
                  have t7 := ne_tail hnx9 d7 fun q hq => (hex q hq).2.2.2 _ (by rw [hRf]; exact .tail _ (.tail _ (.tail _ (.tail _ (.tail _ (.tail _ (.tail _ (.tail _ (.tail _ (.tail _ (.tail _ (.head _))))))))))))
                  have sub1 : ∀ q ∈ nx2, q ∈ nx9 := fun q hq => by rw [hnx9]; exact List.mem_append_left _ hq
                  have sub2 : ∀ q ∈ ex, q ∈ nx9 := fun q hq => by rw [hnx9]; exact List.mem_append_right _ hq
                  have mgl3 := sub1 _ mgl2
                  have rgs3 := rgs2.mono sub1
                  have rvm3 := rvm2.mono sub1
                  have RS3 := (RS.sub sub2).conv (Pd' := fun _ => True) (k' := 100) (fun q hq _ => Nat.lt_succ_of_le (whole_rest hq).1) (Nat.mul_le_mul (by omega : cP 0 gs + 1 ≤ 10) (by omega : cP 1 gs + 1 ≤ 10))
                  have x1 := cell_ne N25 (by assumption) (.tail _ (.tail _ (.tail _ (.tail _ (.tail _ (.head _)))))) (a := D8) (.tail _ (.head _))
                  have x2 := cell_ne N25 (by assumption) (.tail _ (.tail _ (.tail _ (.tail _ (.tail _ (.tail _ (.head _))))))) (a := D8) (.tail _ (.head _))
                  have x3 := tab_ne N25 (.tail _ (.tail _ (.tail _ (.tail _ (.tail _ (.tail _ (.tail _ (.tail _ (.tail _ (.head _)))))))))) (a := D8) (.tail _ (.head _))
                  have y1 := cell_ne N25 (by assumption) (.tail _ (.tail _ (.tail _ (.tail _ (.tail _ (.head _)))))) (a := DR) (.head _)
                  have y2 := cell_ne N25 (by assumption) (.tail _ (.tail _ (.tail _ (.tail _ (.tail _ (.tail _ (.head _))))))) (a := DR) (.head _)
                  have y3 := tab_ne N25 (.tail _ (.tail _ (.tail _ (.tail _ (.tail _ (.tail _ (.tail _ (.tail _ (.tail _ (.head _)))))))))) (a := DR) (.head _)
                  clear N24 hnx9 sub1 sub2 mgl2 rgs2 rvm2 RS hex d1 d2 d3 d4 d5 d6 d7 hRf lR9 q3 hyl9 hR9 hyl hys mb0 mb1 sw0 sw1 hmK dK hIK hoK hI1 hI2 hR8 K oK I ex
                  rename (News _ _ _ _) => N26
                  revert F24 N26
                  rename (News _ _ _ _) => z1; clear z1
                  rename (News _ _ _ _) => z1; clear z1
                  rename (Fr _ _ _ _) => z1; clear z1
                  rename (Fr _ _ _ _) => z1; clear z1
                  rename (@LT.lt Nat _ _ _ ∧ _) => z1; clear z1
                  rename (@LT.lt Nat _ _ _ ∧ _) => z1; clear z1
                  rename (@LT.lt Nat _ _ _ ∧ _) => z1; clear z1
                  rename (@LT.lt Nat _ _ _ ∧ _) => z1; clear z1
                  rename (@LT.lt Nat _ _ _ ∧ _) => z1; clear z1
                  clear hr
                  rename (∀ (b : Addr) (o : Obj), _ → _) => z1; clear z1
                  intro F24 N26
                  obtain late9 : Late := ⟨⟩
                  (try dsimp only)
                  k_steps
                  refine unhold ?_
                  refine Assign_Tuple ?_
                  refine comp_K F24 (by with_unfolding_all rfl) (fun _ => rfl) (fun _ => rfl) rfl (by decide) ?_
                  k_steps
                  refine unhold ?_
                  rename (Fr _ _ _ _) => F8
                  rename (News _ _ _ _) => N8
                  obtain ⟨R8, hR8, N8'⟩ := pickAll N8
                  refine srcG_list rfl F8 N8' (.inr (by rw [hR8]; k_mem)) rfl rfl (by rw [sizeLine_eq]; show 2 ≤ _; decide) ?_
                  intro I h9 hI1 hI2 K oK hoK hIK
                  refine ⟨JK K R8 gs,
                    ⟨oK, none, rfl, hoK, rfl, fun c v h => by simp at h⟩, ?_, ?_, ?_, ?_⟩
                  · rintro i ys nw ⟨oK', v0, rfl, -⟩
                    exact .inr (.tail _ (by rw [hR8]; k_mem))
                  · rintro i ys nw ⟨oK', v0, -, -, e, -⟩
                    exact Nat.le_of_eq e
                  · rintro C D i v oI oC m₂ ys nw h tk E' hID hDC hCK hi hP hJ hoC F N off
                    obtain ⟨oK', v0, rfl, dK, hyl, hys⟩ := hJ
                    have hRK : ∀ q ∈ R8, @Ne Nat q.1 K := fun q hq => Nat.ne_of_lt (Nat.lt_trans (hI1 q hq) hIK)
                    refine store_compK F N dK rfl (by rfl) (by rfl) (Nat.ne_of_lt hIK) (Nat.ne_of_lt hCK) (Nat.ne_of_lt (Nat.lt_trans hDC hCK)) hRK ?_
                    intro h1 oK1 F1 N1 dK1
                    clear F N
                    obtain hi2 : i < 2 := hi
                    obtain ⟨tv, rfl, hc9⟩ : ∃ t, v = .int ((cP i gs : Nat) : Int) t ∧ cP i gs ≤ 9 := by
                      rcases (show i = 0 ∨ i = 1 by omega) with rfl | rfl
                      · simp at hP; exact ⟨_, hP.symm, h90⟩
                      · simp at hP; exact ⟨_, hP.symm, h91⟩
                    rw [hR8] at N1
                    clear N8 N8' F8
                    (try dsimp only); (try k_fold)
                    k_steps
                    refine unhold ?_
                    rename (Fr _ _ _ _) => F31
                    rename (News _ _ _ _) => N31
                    rename (IsRange _ _ _ _ _ _ _ _) => hr
                    refine LCt.CompSrcT.range rfl F31 N31 hr (by decide) (n := 4) (by decide) (by rw [sizeLine_eq]; decide) ?_
                    intro gg2
                    refine rest_keep (fun k => decide (2 ^ k ≤ cP i gs)) ?_ ?_
                    · intro k v I2 oI2 C2 oC2 D2 m3 ys2 h' tk' E2 hk hv hC hx F' N' off2 ne2
                      obtain ⟨t9, rfl⟩ := hv
                      rcases (show k = 0 ∨ k = 1 ∨ k = 2 ∨ k = 3 by omega) with rfl | rfl | rfl | rfl
                      all_goals
                        (try dsimp only); (try k_fold)
                        k_steps
                      all_goals
                        refine unhold ?_
                        rename (Fr _ _ _ _) => F32
                        rename (News _ _ _ _) => N32
                        first
                          | exact CompEnd.intro F32 N32 _ (fun p hp => hp) off2 trivial ⟨rfl, (pow_yes (by assumption)).symm⟩
                          | exact CompEnd.intro F32 N32 _ (fun p hp => hp) off2 trivial ⟨rfl, (pow_no (by assumption)).symm⟩
                    · intro ys2 hys2
                      rw [bits_count hc9] at hys2
                      refine fun D2 h2 tk2 F2 N2 o2 => ?_
                      (try dsimp only)
                      k_steps
                      refine unhold ?_
                      rename (Fr _ _ _ _) => F33
                      rename (News _ _ _ _) => N33
                      refine len_lst (k := bits (cP i gs)) (N33 (D2, lst ys2) (.head _)).1 hys2 (by have := bits_le hc9; omega) ?_
                      (try k_unfold); (try dsimp only)
                      rw [← hR8] at N33
                      refine ⟨h2, _, oC, (K, oK1) :: R8, rfl, F33, fun q hq => N33 q (.tail _ hq), ⟨⟨Nat.ne_of_gt hIK, Nat.ne_of_gt hCK, Nat.ne_of_gt (Nat.lt_trans hDC hCK)⟩, off.2⟩, ⟨m₂, hoC⟩, oK1, _, rfl, dK1, by rw [List.length_append, List.length_singleton]; omega, fun c v hv => ?_⟩
                      by_cases hci : c < i
                      · rw [List.getElem?_append_left (by omega)] at hv
                        exact hys c v hv
                      · rw [List.getElem?_append_right (by omega)] at hv
                        obtain rfl : c = i := by
                          have := (List.getElem?_eq_some_iff.mp hv).1
                          simp at this; omega
                        rw [hyl, Nat.sub_self] at hv
                        simp at hv
                        exact ⟨_, hv.symm⟩
                  · rintro D h1 tk1 ys nw ⟨oK', v0, rfl, dK, hyl, hys⟩ h10 tk10 F10 N10 o10
                    obtain ⟨ta, tb, rfl⟩ := two_intsF (f := fun c => bits (cP c gs)) hyl hys
                    obtain N18 := News.perm N10 (news' := (D, lst [.int ((bits (cP 0 gs) : Nat) : Int) ta, .int ((bits (cP 1 gs) : Nat) : Int) tb]) :: R8) (fun q hq => by
                      rcases List.mem_cons.mp hq with rfl | hq
                      · exact .head _
                      · exact .tail _ (.tail _ hq))
                    rw [hR8] at N18
                    clear o10 N10 N8 N8' F8 hR8
                    (try dsimp only)
                    k_steps
                    refine unhold ?_
                    rename (Fr _ _ _ _) => F40
                    refine For_turns F40 ?_ (by intro _; rfl) ?_
                    · k_steps
                      refine unhold ?_
                      rename (Fr _ _ _ _) => F41
                      rename (News _ _ _ _) => N41
                      obtain ⟨T13, Rk, eT, hRk, N42⟩ := pickU N41
                      subst eT
                      obtain hRk8 : ∀ q ∈ Rk, @Ne Nat q.1 218 := by
                        rw [hRk]
                        iterate 10 (refine List.forall_mem_cons.mpr ⟨by k_ne, ?_⟩)
                        exact t7
                      obtain hb0 := bits_le h90
                      obtain hb1 := bits_le h91
                      clear N41
                      refine iter_Mt (l := T13) (lo := { cls := .type "tuple", data := .seq #[.bool false, .bool true] }) (vs := [.bool false, .bool true]) rfl rfl rfl F41 N42
                        (JU D8 DR (bits (cP 0 gs)) (bits (cP 1 gs)) ta tb Rk fun a => @Ne Nat a 218 ∧ @Ne Nat a (s9.heap.objs.size + 1 + 1 + 1 + 1 + 1) ∧ @Ne Nat a (s9.heap.objs.size + 1 + 1 + 1 + 1 + 1 + 1))
                        ?_ ⟨⟨_, ms_eq rfl rfl rfl rfl⟩, _, [], rfl, ⟨fun _ => rfl, (fun e => absurd e (by decide)), fun _ h => nomatch h⟩⟩ ?_ ?_
                      · rintro i m nx' ⟨-, tab, ex, rfl, -⟩
                        exact .inr (.tail _ (List.mem_append_left _ (by rw [hRk]; exact .head _)))
                      · rintro i v m1 nx' h13 tk13 I13 oI13 hv ⟨⟨u, rfl⟩, tab, ex, rfl, TS⟩ offI ltI LI F13 N14
                        rcases i with _ | _ | i
                        · obtain rfl : v = .bool false := by simpa using hv.symm
                          obtain rfl := TS.zero rfl
                          obtain ⟨nx4, hnx4⟩ : ∃ nx4, nx4 = nx9 ++ ex := ⟨_, rfl⟩
                          obtain hI8 : @Ne Nat I13 218 := fun e => offI (218, tabObj #[]) (.head _) e.symm
                          obtain hR9 : ∀ q ∈ Rk ++ ex, @Ne Nat q.1 218 := fun q hq => (List.mem_append.mp hq).elim (hRk8 q) fun z => (TS.off q z).1
                          rw [hRk] at N14 hR9
                          simp only [List.cons_append] at N14 hR9
                          rw [← hnx4] at N14 hR9
                          clear N42 F41
                          (try dsimp only); (try k_fold)
                          k_steps
                          refine unhold ?_
                          rename (Fr _ _ _ _) => F50
                          rename (News _ _ _ _) => N50
                          obtain ⟨lo, se, lk, e1, e2, e3, N51⟩ := pickLk N50
                          subst e1 e2 e3
                          rename (@LT.lt Nat _ I13 lk ∧ _) => q1
                          rename (@LT.lt Nat _ lk se ∧ _) => q2
                          rename (@LT.lt Nat _ se lo ∧ _) => q3
                          refine law_rest_f (nx := nx4) K9 F50 X9 T9 rfl (by decide) (by decide) N51 (kp_off (o218 := tabObj #[]) (by exact q1) q2.1 q3.2.1 hI8 hR9) q1.2.1 (by k_mem) (by k_mem) (by k_mem) (rvm3.mono fun q hq => by rw [hnx4]; exact List.mem_append_left _ hq) (fun q hq => by repeat (first | exact hq | refine List.Mem.tail _ ?_)) hgok hglen (by k_mem) (by k_mem) (by k_mem) hC h90 h91 ?_
                          intro r h51 tk51 vl' nl' o51 c' oc vsc tq qr F51 N52 lc l8 hoc hvs hlen hpo hrest
                          clear N50 F50 N51 N14 F13
                          (try dsimp only)
                          k_steps
                          refine unhold ?_
                          rename (News _ _ _ _) => N53
                          refine notIn_pair N53 (by k_mem) RS3.dat (fun q hq => ?_) (.head _) hpo (RS3.full qr hrest trivial) (by show callerA.units + 3 + 64 < cLine; decide) ?_
                          · have hq4 : q ∈ nx4 := by rw [hnx4]; exact List.mem_append_left _ hq
                            repeat (first | exact hq4 | refine List.Mem.tail _ ?_)
                          (try dsimp only)
                          k_steps
                          refine unhold ?_
                          rename (News _ _ _ _) => N54
                          obtain hpr : bits (cP 0 gs) * (bits (cP 1 gs) + 1) ≤ 4 * 5 := Nat.mul_le_mul hb0 (by omega)
                          refine len_lo (vs := vl') (n := nl') (N54 (lk, _) (by k_mem)).1 (by omega) ?_
                          (try dsimp only)
                          k_steps
                          · rename (_ < ((List.length _ : Nat) : Int)) => e9
                            exact (looks_absurd hlen e9).elim
                          rename (Fr _ _ _ _) => F55
                          rename (News _ _ _ _) => N55
                          refine ⟨.inl rfl, _, _, _, _, rfl, F55, endU N55 (Rk := Rk) (ex := ex) (by rw [hRk, hnx4]; rfl), off_tab offI (fun q hq => ?_), ⟨_, ms_eq rfl rfl rfl rfl⟩, _, _, rfl, (fun e => absurd e (by decide)), (fun _ => ⟨c', oc, vsc, tq, rfl, List.mem_append_right _ (.head _), hoc, hvs⟩), fun q hq => (List.mem_append.mp hq).elim (TS.off q) fun z => by
                            rw [List.mem_singleton.mp z]
                            exact ⟨Nat.ne_of_gt l8, Nat.ne_of_gt (lc (s9.heap.objs.size + 1 + 1 + 1 + 1 + 1, _) (by k_mem)), Nat.ne_of_gt (lc (s9.heap.objs.size + 1 + 1 + 1 + 1 + 1 + 1, _) (by k_mem))⟩⟩
                          rcases List.mem_append.mp hq with hq | hq
                          · exact .inl hq
                          · rw [List.mem_singleton.mp hq]
                            exact .inr (Nat.ne_of_gt (lc (I13, oI13) (by k_mem)))
                        · obtain rfl : v = .bool true := by simpa using hv.symm
                          obtain ⟨c', oc, vsc, tq, rfl, mc, hoc, hvs⟩ := TS.one rfl
                          obtain ⟨nx4, hnx4⟩ : ∃ nx4, nx4 = nx9 ++ ex := ⟨_, rfl⟩
                          obtain mc4 : (c', oc) ∈ nx4 := by rw [hnx4]; exact List.mem_append_right _ mc
                          obtain hI8 : @Ne Nat I13 218 := fun e => offI (218, tabObj (psOf c')) (.head _) e.symm
                          obtain hR9 : ∀ q ∈ Rk ++ ex, @Ne Nat q.1 218 := fun q hq => (List.mem_append.mp hq).elim (hRk8 q) fun z => (TS.off q z).1
                          rw [hRk] at N14 hR9
                          simp only [List.cons_append] at N14 hR9
                          rw [← hnx4] at N14 hR9
                          clear N42 F41
                          (try dsimp only); (try k_fold)
                          k_steps
                          refine unhold ?_
                          rename (Fr _ _ _ _) => F50
                          rename (News _ _ _ _) => N50
                          obtain ⟨lo, se, lk, e1, e2, e3, N51⟩ := pickLk N50
                          subst e1 e2 e3
                          rename (@LT.lt Nat _ I13 lk ∧ _) => q1
                          rename (@LT.lt Nat _ lk se ∧ _) => q2
                          rename (@LT.lt Nat _ se lo ∧ _) => q3
                          refine law_rest_t (nx := nx4) K9 F50 X9 T9 rfl (by decide) (by decide) N51 (kp_off (o218 := tabObj (psOf c')) (by exact q1) q2.1 q3.2.1 hI8 hR9) q1.2.1 (by k_mem) (by k_mem) (by k_mem) (rvm3.mono fun q hq => by rw [hnx4]; exact List.mem_append_left _ hq) (fun q hq => by repeat (first | exact hq | refine List.Mem.tail _ ?_)) hgok hglen (by k_mem) (by k_mem) (by k_mem) (by repeat (first | exact mc4 | refine List.Mem.tail _ ?_)) hoc hvs hC h90 h91 ?_
                          intro r h51 tk51 vl' nl' o51 qr F51 N52 hlen hpo hrest
                          clear N50 F50 N51 N14 F13
                          (try dsimp only)
                          k_steps
                          refine unhold ?_
                          rename (News _ _ _ _) => N53
                          refine notIn_pair N53 (by k_mem) RS3.dat (fun q hq => ?_) (.head _) hpo (RS3.full qr hrest trivial) (by show callerA.units + 3 + 64 < cLine; decide) ?_
                          · have hq4 : q ∈ nx4 := by rw [hnx4]; exact List.mem_append_left _ hq
                            repeat (first | exact hq4 | refine List.Mem.tail _ ?_)
                          (try dsimp only)
                          k_steps
                          refine unhold ?_
                          rename (News _ _ _ _) => N54
                          obtain hpr : bits (cP 0 gs) * (bits (cP 1 gs) + 1) ≤ 4 * 5 := Nat.mul_le_mul hb0 (by omega)
                          refine len_lo (vs := vl') (n := nl') (N54 (lk, _) (by k_mem)).1 (by omega) ?_
                          (try dsimp only)
                          k_steps
                          · rename (_ < ((List.length _ : Nat) : Int)) => e9
                            exact (looks_absurd hlen e9).elim
                          rename (Fr _ _ _ _) => F55
                          rename (News _ _ _ _) => N55
                          exact ⟨.inl rfl, _, _, _, _, rfl, F55, endV N55 (Rk := Rk) (ex := ex) (by rw [hRk, hnx4]; rfl), off_tab offI (fun q hq => .inl hq), ⟨_, ms_eq rfl rfl rfl rfl⟩, _, _, rfl, (fun e => absurd e (by decide)), (fun e => absurd e (by decide)), TS.off⟩
                        · simp at hv
                      · rintro m2 nx4 h13 tk13 ⟨⟨u, rfl⟩, tab, ex, rfl, TS⟩ F13 N14
                        obtain ⟨nx5, hnx5⟩ : ∃ nx5, nx5 = nx9 ++ ex := ⟨_, rfl⟩
                        obtain s5 := ne_tail2 hnx5 t5 fun q hq => (TS.off q hq).2.1
                        obtain s6 := ne_tail2 hnx5 t6 fun q hq => (TS.off q hq).2.2
                        have sub5 : ∀ q ∈ nx9, q ∈ nx5 := fun q hq => by rw [hnx5]; exact List.mem_append_left _ hq
                        obtain mgl5 := sub5 _ mgl3
                        obtain rgs5 := rgs3.mono sub5
                        obtain RS5 := RS3.sub sub5
                        rw [hRk] at N14
                        simp only [List.cons_append] at N14
                        rw [← hnx5] at N14
                        obtain N15 := pickW N14
                        clear N14 N42 F41 hRk hRk8 hnx5 sub5 TS mgl3 rgs3 rvm3 RS3 t5 t6 t7 l2 l3 Rk
                        (try dsimp only)
                        k_steps
                        refine unhold ?_
                        rename (Fr _ _ _ _) => F60
                        rename (News _ _ _ _) => N60
                        have ghn : gs.length = (List.map rowOf gs).length := (List.length_map _).symm
                        obtain hgne : gs ≠ [] := by rw [hgs]; exact gsOf_ne _
                        refine moved_spec (coming := true) K9 F60 X9 T9 rfl (by decide) (by decide) hgok (fun _ => rfl) (N60 (gl, lst vg) (by repeat (first | exact mgl5 | refine List.Mem.tail _ ?_))).1 (RowsO.at F60 N60 (fun q hq => by repeat (first | exact hq | refine List.Mem.tail _ ?_)) hgok rgs5) hgne (by omega) rfl ⟨_, (N60 (D8, _) (by k_mem)).1, rfl, _, rfl⟩ h90 h91 ?_
                        intro ra h61 tk61 oa qa k61 hr61 ho61 hpa hresta hbesta
                        obtain ⟨F61, N61, ne61⟩ := fresh_none F60 N60 k61 hr61 ho61
                        clear F60 N60 k61 hr61 ho61
                        (try dsimp only)
                        k_steps
                        refine unhold ?_
                        rename (Fr _ _ _ _) => F62
                        rename (News _ _ _ _) => N62
                        refine krv_lit (its := vg.toArray) (zs := vg.reverse) F62 N62 ⟨_, (N62 (gl, lst vg) (by repeat (first | exact mgl5 | refine List.Mem.tail _ ?_))).1, rfl, _, rfl⟩ (IsPart.int _ _) rfl ?_ (by with_unfolding_all rfl) (by kmk_pure) (by rw [List.size_toArray, sizeLine_eq]; omega)
                        intro gr h63 F63 N63 lr63
                        clear F62 N62
                        (try dsimp only)
                        k_steps
                        refine unhold ?_
                        rename (Fr _ _ _ _) => F64
                        rename (News _ _ _ _) => N64
                        have hrl : gs.reverse.length = gs.length := List.length_reverse
                        refine moved_spec (gs := gs) (gs0 := gs.reverse) (vg := vg.reverse) (coming := false) K9 F64 X9 T9 rfl (by decide) (by decide) (guests_rev hgok) (fun _ => List.countP_reverse) (N64 (gr, _) (.head _)).1 (RowsO.at F64 N64 (nx := nx5) (fun q hq => by repeat (first | exact hq | refine List.Mem.tail _ ?_)) (guests_rev hgok) (by rw [List.map_reverse]; exact rgs5.rev)) (fun e => hgne (List.reverse_eq_nil_iff.mp e)) (by omega) hrl ⟨_, (N64 (D8, _) (by k_mem)).1, rfl, _, rfl⟩ h90 h91 ?_
                        intro rb h65 tk65 ob qb k65 hr65 ho65 hpb hrestb hbestb
                        obtain ⟨F65, N65, ne65⟩ := fresh_none F64 N64 k65 hr65 ho65
                        obtain N66 := pickZ N65
                        obtain z1 : @Ne Nat (s9.heap.objs.size + 1 + 1 + 1 + 1 + 1 + 1) ra := ne61 (s9.heap.objs.size + 1 + 1 + 1 + 1 + 1 + 1, _) (by k_mem)
                        obtain z2 : @Ne Nat (s9.heap.objs.size + 1 + 1 + 1 + 1 + 1) ra := ne61 (s9.heap.objs.size + 1 + 1 + 1 + 1 + 1, _) (by k_mem)
                        obtain z3 : @Ne Nat (s9.heap.objs.size + 1 + 1 + 1 + 1 + 1 + 1) rb := ne65 (s9.heap.objs.size + 1 + 1 + 1 + 1 + 1 + 1, _) (by k_mem)
                        obtain z4 : @Ne Nat (s9.heap.objs.size + 1 + 1 + 1 + 1 + 1) rb := ne65 (s9.heap.objs.size + 1 + 1 + 1 + 1 + 1, _) (by k_mem)
                        clear F64 N64 k65 hr65 ho65 N65 ne61 ne65 lr63
                        (try dsimp only)
                        k_steps
                        refine unhold ?_
                        rename (News _ _ _ _) => N70
                        refine notIn_pair N70 (by k_mem) RS5.dat (fun q hq => by repeat (first | exact hq | refine List.Mem.tail _ ?_)) (o := oa) (by k_mem) hpa (RS5.full qa hresta trivial) (by show callerA.units + 3 + 64 < cLine; decide) ?_
                        (try dsimp only)
                        k_steps
                        refine unhold ?_
                        rename (News _ _ _ _) => N71
                        refine notIn_pair N71 (by k_mem) RS5.dat (fun q hq => by repeat (first | exact hq | refine List.Mem.tail _ ?_)) (o := ob) (by k_mem) hpb (RS5.full qb hrestb trivial) (by show callerA.units + 3 + 64 < cLine; decide) ?_
                        (try dsimp only)
                        k_steps
                        refine unhold ?_
                        obtain ⟨xa, ya⟩ := qa
                        obtain ⟨xb, yb⟩ := qb
                        refine comp_T (by k_asm) (by with_unfolding_all rfl) (by decide) rfl (by decide) ?_
                        k_steps
                        refine unhold ?_
                        rename (Fr _ _ _ _) => F80
                        rename (News _ _ _ _) => N80
                        obtain ⟨R80, hR80, N80'⟩ := pickAll N80
                        obtain hrsn : rs.length ≤ 100 := by rw [RS5.len]; exact RS5.small
                        refine srcG_list rfl F80 N80' (.inr (by rw [hR80]; k_mem)) rfl rfl (by rw [sizeLine_eq]; omega) ?_
                        intro I8 h81 hI81 hI82
                        refine ⟨JZ R80 ps,
                          ⟨[], rfl, rfl, (fun c v h => by simp at h), fun _ h => nomatch h⟩, ?_, ?_, ?_, ?_⟩
                        · rintro j ys nw ⟨ex, rfl, -⟩
                          exact .inr (List.mem_append_right _ (by rw [hR80]; k_mem))
                        · rintro j ys nw ⟨ex, rfl, e, -⟩
                          exact Nat.le_of_eq e
                        · rintro C D j v oI oC m₂ ys nw h tk E' hID hDC hj hP ⟨ex, rfl, hyl, hys, hex⟩ hoC F N off
                          obtain ⟨r, q, t, u, n, rfl, hq, hm⟩ := RS5.item j v hP
                          obtain ⟨x, y⟩ := q
                          have hrq := RS5.sound _ (List.mem_of_getElem? hq)
                          obtain ⟨hle1, hle2⟩ := hbesta _ hrq
                          obtain ⟨hle3, hle4⟩ := hbestb _ hrq
                          dsimp only at hle1 hle2 hle3 hle4 hm
                          have hoff := off.mem
                          have hIC := Nat.ne_of_lt (Nat.lt_trans hID hDC)
                          have n9 : ∀ q ∈ (D, lst ys) :: (R80 ++ ex), q.1 ≠ C := fun q hq => by
                            rcases List.mem_cons.mp hq with rfl | hq
                            · exact Nat.ne_of_lt hDC
                            · exact (hoff q ((List.mem_append.mp hq).elim (fun z => List.mem_append_right _ z) fun z => List.mem_append_left _ z)).2.1
                          have N1 := swap3 N
                          refine kun_list (items := #[.int ((x : Nat) : Int) t, .int ((y : Nat) : Int) u]) F N1 ⟨_, (N1 (r, _) (.tail _ (.tail _ (.tail _ (List.mem_append_left _ (by rw [hR80]; repeat (first | exact hm | refine List.Mem.tail _ ?_))))))).1, rfl, _, rfl⟩ rfl rfl rfl ?_
                          intro h2 F2 N2
                          clear F N N1 N80 N80' F80
                          (try dsimp only); (try k_fold)
                          k_steps
                          refine unhold ?_
                          refine store_comp F2 N2 hoC rfl rfl hIC n9 ?_
                          intro h3 oC3 F3 N3 hoC3
                          clear F2 N2
                          (try dsimp only)
                          k_steps
                          refine unhold ?_
                          refine store_comp F3 N3 hoC3 rfl rfl hIC n9 ?_
                          intro h4 oC4 F4 N4 hoC4
                          clear F3 N3
                          obtain ⟨m6, hm6⟩ : ∃ m6 : Str → Option Value, m6 = (fun z => if z = Str.ofString "y" then some (Value.int ((y : Nat) : Int) u) else (fun z => if z = Str.ofString "x" then some (Value.int ((x : Nat) : Int) t) else m₂ z) z) := ⟨_, rfl⟩
                          rw [← hm6] at hoC4
                          have hx6 : m6 (Str.ofString "x") = some (Value.int ((x : Nat) : Int) t) := by rw [hm6]; rfl
                          have hy6 : m6 (Str.ofString "y") = some (Value.int ((y : Nat) : Int) u) := by rw [hm6]; rfl
                          clear hm6
                          rw [hR80] at N4
                          simp only [List.cons_append] at N4
                          (try dsimp only)
                          k_steps
                          rename (Fr _ _ _ _) => F90
                          rename (News _ _ _ _) => N90
                          rename (@LT.lt Nat _ I8 _ ∧ _) => q9
                          obtain ⟨N91, o91, x91⟩ := endW (R80 := R80) (ex := ex) N90 (by exact q9) (by rw [hR80]; rfl) off hex
                          refine ⟨_, _, _, _, rfl, F90, N91, o91, ⟨m6, hoC4⟩, _, rfl, by rw [List.length_append, List.length_singleton]; omega, fun c v hv => ?_, x91⟩
                          by_cases hci : c < j
                          · rw [List.getElem?_append_left (by omega)] at hv
                            obtain ⟨r9, q9', t9', u9, n9', e9, h9, m9⟩ := hys c v hv
                            exact ⟨r9, q9', t9', u9, n9', e9, h9, .tail _ m9⟩
                          · rw [List.getElem?_append_right (by omega)] at hv
                            obtain rfl : c = j := by
                              have := (List.getElem?_eq_some_iff.mp hv).1
                              simp at this; omega
                            rw [hyl, Nat.sub_self] at hv
                            simp at hv
                            exact ⟨_, (x, y), t, u, _, hv.symm, hq, .head _⟩
                        · rintro D9 h3 tk3 ys nw F3 N3 o3 ⟨ex, rfl, hyl, hys, hex⟩
                          obtain ⟨nx6, hnx6⟩ : ∃ nx6, nx6 = ex ++ R80 := ⟨_, rfl⟩
                          refine eq_pairs (n1 := nx5) (n2 := ex) (ps := ps) N3 (.tail _ (List.mem_append_right _ (by rw [hR80]; k_mem))) RS5.dat (fun q hq => .tail _ (List.mem_append_right _ (by rw [hR80]; repeat (first | exact hq | refine List.Mem.tail _ ?_)))) (.head _) (datAll_of (hyl.trans RS5.len) hys) (fun q hq => .tail _ (List.mem_append_left _ hq)) (by show callerA.units + 3 + 64 < cLine; decide) ?_
                          (try dsimp only)
                          refine ⟨?_, ⟨_, (N3 (218, tabObj tab) (.tail _ (List.mem_append_right _ (by rw [hR80]; k_mem)))).1⟩, True.intro⟩
                          exact law_end F3 (by assumption) rfl
                    · k_steps
              · k_steps
        · k_steps
  · k_steps)

end
end
end
end Mine

theorem PySem.Challenge.cw_ph0161_01_holds : PySem.Challenge.rw_ph0161_01.Holds :=
  Mine.law_main
