import PyProof.Rows.All
import Wide.All
import OpenK.AllK
import Wide.FinOn
import Lean
import PySem.Challenge.RW_dn0046_01
open PySem PySem.W PySem.Calls PyProof.Rows
set_option Elab.async false
set_option maxRecDepth 100000
namespace Mine
-- 1. The plain law: no program in sight
/-- the k-th smallest, k from nought -/
def kth (l : List Int) (k : Nat) : Int := (l.mergeSort (fun a b => decide (a ≤ b))).getD k 0
/-- the distances from half of p, doubled -/
def dist (p : Int) (l : List Int) : List Int := l.map fun x => if 2 * x - p < 0 then -(2 * x - p) else 2 * x - p
theorem fdiv2 (x : Int) : x.fdiv 2 = x / 2 := Int.fdiv_eq_ediv_of_nonneg x (by omega)

theorem srt_pair (l : List Int) : (l.mergeSort (fun a b => decide (a ≤ b))).Pairwise (· ≤ ·) := by
  have h := List.pairwise_mergeSort (le := fun a b : Int => decide (a ≤ b)) (fun a b c h1 h2 => by simp at *; omega) (fun a b => by simp; omega) l
  simpa using h
theorem kth_of {l l' : List Int} (p : l'.Perm l) (o : l'.Pairwise (· ≤ ·)) (k : Nat) : l'.getD k 0 = kth l k := by
  unfold kth
  rw [List.Perm.eq_of_pairwise (le := fun a b : Int => a ≤ b) (fun a b _ _ h1 h2 => Int.le_antisymm h1 h2) o (srt_pair l) (p.trans (List.mergeSort_perm l _).symm)]
theorem kth_perm {l l' : List Int} (p : l.Perm l') (k : Nat) : kth l k = kth l' k :=
  kth_of ((List.mergeSort_perm l _).trans p) (srt_pair l) k

theorem getD_of_count (r : Int) : ∀ (s : List Int) (k : Nat), s.Pairwise (· ≤ ·) → s.countP (fun a => decide (a < r)) ≤ k → k < s.countP (fun a => decide (a ≤ r)) → s.getD k 0 = r
  | [], k, _, _, h => by simp at h
  | a :: t, k, o, h1, h2 => by
    obtain ⟨oa, ot⟩ := List.pairwise_cons.mp o
    rcases Int.lt_trichotomy a r with h | h | h
    · rw [List.countP_cons_of_pos (by simpa using h)] at h1
      rw [List.countP_cons_of_pos (by simp; omega)] at h2
      obtain ⟨j, rfl⟩ : ∃ j, k = j + 1 := ⟨k - 1, by omega⟩
      simpa using getD_of_count r t j ot (by omega) (by omega)
    · subst h
      have z : t.countP (fun b => decide (b < a)) = 0 := List.countP_eq_zero.mpr fun b hb => by
        have := oa b hb
        simp; omega
      rw [List.countP_cons_of_pos (by simp)] at h2
      cases k with
      | zero => rfl
      | succ j => simpa using getD_of_count a t j ot (by omega) (by omega)
    · have z : (a :: t).countP (fun b => decide (b ≤ r)) = 0 := List.countP_eq_zero.mpr fun b hb => by
        rcases List.mem_cons.mp hb with rfl | hb
        · simp; omega
        · have := oa b hb
          simp; omega
      omega
theorem kth_count {l : List Int} {k : Nat} {r : Int} (h1 : l.countP (fun a => decide (a < r)) ≤ k) (h2 : k < l.countP (fun a => decide (a ≤ r))) : kth l k = r := by
  have p := List.mergeSort_perm l (fun a b => decide (a ≤ b))
  exact getD_of_count r _ k (srt_pair l) (by rw [p.countP_eq]; exact h1) (by rw [p.countP_eq]; exact h2)

theorem med_odd {n' ns : List Int} (p : n'.Perm ns) (o : n'.Pairwise (· ≤ ·)) (h : (n'.length : Int).fmod 2 = 1) : n'.getD ((n'.length : Int).fdiv 2).toNat 0 = kth ns ((ns.length + 1) / 2 - 1) := by
  rw [Int.fmod_eq_emod_of_nonneg _ (by omega)] at h
  rw [← kth_of p o, fdiv2, ← p.length_eq]
  congr 1
  omega
theorem med_even {n' ns : List Int} (p : n'.Perm ns) (o : n'.Pairwise (· ≤ ·)) (h0 : (n'.length : Int) ≠ 0) (h : (n'.length : Int).fmod 2 ≠ 1) : n'.getD ((n'.length : Int).fdiv 2 - 1).toNat 0 = kth ns ((ns.length + 1) / 2 - 1) := by
  rw [Int.fmod_eq_emod_of_nonneg _ (by omega)] at h
  rw [← kth_of p o, fdiv2, ← p.length_eq]
  congr 1
  omega
theorem med_high_val {n' ns : List Int} (p : n'.Perm ns) (o : n'.Pairwise (· ≤ ·)) : n'.getD ((n'.length : Int).fdiv 2).toNat 0 = kth ns (ns.length / 2) := by
  rw [← kth_of p o, fdiv2, ← p.length_eq]
  congr 1

/-- the place that the search has come to: all below lo are too small, all from hi on are not -/
def Bis (ns : List Int) (h p lo hi : Int) : Prop :=
  0 ≤ lo ∧ lo ≤ hi ∧ hi ≤ ns.length - h ∧ (∀ k : Nat, (k : Int) < lo → ns.getD k 0 + ns.getD (k + h.toNat) 0 < p) ∧ (∀ k : Nat, hi ≤ (k : Int) → (k : Int) < ns.length - h → p ≤ ns.getD k 0 + ns.getD (k + h.toNat) 0)
theorem Bis.bnd {ns : List Int} {h p lo hi : Int} (B : Bis ns h p lo hi) : 0 ≤ lo ∧ lo ≤ hi ∧ hi ≤ ns.length - h := ⟨B.1, B.2.1, B.2.2.1⟩
theorem Bis.mid {ns : List Int} {h p lo hi : Int} (B : Bis ns h p lo hi) (e : lo < hi) : 0 ≤ (lo + hi).fdiv 2 ∧ lo ≤ (lo + hi).fdiv 2 ∧ (lo + hi).fdiv 2 < hi ∧ hi ≤ ns.length - h := by
  have := B.bnd
  rw [fdiv2]
  omega
theorem getD_at {ns : List Int} {i : Nat} (h : i < ns.length) : ns.getD i 0 = ns[i] := by simp [h]
theorem getD_mono {ns : List Int} (o : ns.Pairwise (· ≤ ·)) {i j : Nat} (h : i ≤ j) (hj : j < ns.length) : ns.getD i 0 ≤ ns.getD j 0 := by
  rw [getD_at (show i < ns.length by omega), getD_at hj]
  rcases Nat.lt_or_eq_of_le h with h | rfl
  · exact (List.pairwise_iff_getElem.mp o) i j (by omega) hj h
  · exact Int.le_refl _
theorem Bis.up {ns : List Int} {h p lo hi : Int} (o : ns.Pairwise (· ≤ ·)) (hh : 1 ≤ h) (B : Bis ns h p lo hi) (e : lo < hi) (q : ns.getD ((lo + hi).fdiv 2).toNat 0 + ns.getD ((lo + hi).fdiv 2 + h).toNat 0 < p) : Bis ns h p ((lo + hi).fdiv 2 + 1) hi := by
  have m := B.mid e
  obtain ⟨b1, b2, b3, b4, b5⟩ := B
  generalize (lo + hi).fdiv 2 = d at m q ⊢
  refine ⟨by omega, by omega, by omega, fun k hk => ?_, b5⟩
  have e1 : ns.getD k 0 ≤ ns.getD d.toNat 0 := getD_mono o (by omega) (by omega)
  have e2 : ns.getD (k + h.toNat) 0 ≤ ns.getD (d + h).toNat 0 := getD_mono o (by omega) (by omega)
  omega
theorem Bis.down {ns : List Int} {h p lo hi : Int} (o : ns.Pairwise (· ≤ ·)) (hh : 1 ≤ h) (B : Bis ns h p lo hi) (e : lo < hi) (q : p ≤ ns.getD ((lo + hi).fdiv 2).toNat 0 + ns.getD ((lo + hi).fdiv 2 + h).toNat 0) : Bis ns h p lo ((lo + hi).fdiv 2) := by
  have m := B.mid e
  obtain ⟨b1, b2, b3, b4, b5⟩ := B
  generalize (lo + hi).fdiv 2 = d at m q ⊢
  refine ⟨by omega, by omega, by omega, b4, fun k hk hk' => ?_⟩
  have e1 : ns.getD d.toNat 0 ≤ ns.getD k 0 := getD_mono o (by omega) (by omega)
  have e2 : ns.getD (d + h).toNat 0 ≤ ns.getD (k + h.toNat) 0 := getD_mono o (by omega) (by omega)
  omega
theorem Bis.lessUp {ns : List Int} {h p lo hi : Int} (B : Bis ns h p lo hi) (e : lo < hi) : (hi - ((lo + hi).fdiv 2 + 1)).toNat < (hi - lo).toNat := by
  have m := B.mid e
  omega
theorem Bis.lessDown {ns : List Int} {h p lo hi : Int} (B : Bis ns h p lo hi) (e : lo < hi) : ((lo + hi).fdiv 2 - lo).toNat < (hi - lo).toNat := by
  have m := B.mid e
  omega

/-- the row of h neighbours from i: its ends' greater distance is the h-th smallest of all -/
theorem window {ns : List Int} {p : Int} {i H : Nat} (o : ns.Pairwise (· ≤ ·)) (hH : 1 ≤ H) (hi : i + H ≤ ns.length)
    (below : ∀ k, k < i → ns.getD k 0 + ns.getD (k + H) 0 < p) (above : i + H < ns.length → p ≤ ns.getD i 0 + ns.getD (i + H) 0) {r : Int}
    (hr : r = if (if 2 * ns.getD (i + H - 1) 0 - p < 0 then -(2 * ns.getD (i + H - 1) 0 - p) else 2 * ns.getD (i + H - 1) 0 - p) > (if 2 * ns.getD i 0 - p < 0 then -(2 * ns.getD i 0 - p) else 2 * ns.getD i 0 - p)
      then (if 2 * ns.getD (i + H - 1) 0 - p < 0 then -(2 * ns.getD (i + H - 1) 0 - p) else 2 * ns.getD (i + H - 1) 0 - p) else (if 2 * ns.getD i 0 - p < 0 then -(2 * ns.getD i 0 - p) else 2 * ns.getD i 0 - p)) :
    kth (dist p ns) (H - 1) = r := by
  have sp : ns = ns.take i ++ ((ns.drop i).take H ++ (ns.drop i).drop H) := by rw [List.take_append_drop, List.take_append_drop]
  have wl : ((ns.drop i).take H).length = H := by rw [List.length_take, List.length_drop]; omega
  have ab : ns.getD i 0 ≤ ns.getD (i + H - 1) 0 := getD_mono o (by omega) (by omega)
  have pre : ∀ x ∈ ns.take i, ¬ (if 2 * x - p < 0 then -(2 * x - p) else 2 * x - p) < r := by
    intro x hx
    obtain ⟨j, hj, rfl⟩ := List.mem_iff_getElem.mp hx
    rw [List.length_take] at hj
    rw [List.getElem_take, ← getD_at (ns := ns) (show j < ns.length by omega)]
    have h1 : ns.getD j 0 ≤ ns.getD (i - 1) 0 := getD_mono o (by omega) (by omega)
    have h2 : ns.getD (i - 1) 0 ≤ ns.getD i 0 := getD_mono o (by omega) (by omega)
    have h3 := below (i - 1) (by omega)
    rw [show i - 1 + H = i + H - 1 by omega] at h3
    generalize ns.getD j 0 = x at *
    generalize ns.getD (i - 1) 0 = y at *
    generalize ns.getD i 0 = a at *
    generalize ns.getD (i + H - 1) 0 = b at *
    subst hr
    omega
  have post : ∀ x ∈ (ns.drop i).drop H, ¬ (if 2 * x - p < 0 then -(2 * x - p) else 2 * x - p) < r := by
    intro x hx
    obtain ⟨j, hj, rfl⟩ := List.mem_iff_getElem.mp hx
    rw [List.length_drop, List.length_drop] at hj
    rw [List.getElem_drop, List.getElem_drop, ← getD_at (ns := ns) (show i + (H + j) < ns.length by omega)]
    have h1 : ns.getD (i + H) 0 ≤ ns.getD (i + (H + j)) 0 := getD_mono o (by omega) (by omega)
    have h2 : ns.getD (i + H - 1) 0 ≤ ns.getD (i + H) 0 := getD_mono o (by omega) (by omega)
    have h3 := above (by omega)
    generalize ns.getD (i + (H + j)) 0 = x at *
    generalize ns.getD (i + H) 0 = y at *
    generalize ns.getD i 0 = a at *
    generalize ns.getD (i + H - 1) 0 = b at *
    subst hr
    omega
  have win : ∀ x ∈ (ns.drop i).take H, (if 2 * x - p < 0 then -(2 * x - p) else 2 * x - p) ≤ r := by
    intro x hx
    obtain ⟨j, hj, rfl⟩ := List.mem_iff_getElem.mp hx
    rw [wl] at hj
    rw [List.getElem_take, List.getElem_drop, ← getD_at (ns := ns) (show i + j < ns.length by omega)]
    have h1 : ns.getD i 0 ≤ ns.getD (i + j) 0 := getD_mono o (by omega) (by omega)
    have h2 : ns.getD (i + j) 0 ≤ ns.getD (i + H - 1) 0 := getD_mono o (by omega) (by omega)
    generalize ns.getD (i + j) 0 = x at *
    generalize ns.getD i 0 = a at *
    generalize ns.getD (i + H - 1) 0 = b at *
    subst hr
    omega
  have inw : ∀ j, j < H → ns.getD (i + j) 0 ∈ (ns.drop i).take H := by
    intro j hj
    have e : ns.getD (i + j) 0 = ((ns.drop i).take H)[j]'(by omega) := by
      rw [List.getElem_take, List.getElem_drop, getD_at (by omega)]
    rw [e]
    exact List.getElem_mem _
  have one : ∃ x ∈ (ns.drop i).take H, ¬ (if 2 * x - p < 0 then -(2 * x - p) else 2 * x - p) < r := by
    have m1 := inw 0 (by omega)
    have m2 := inw (H - 1) (by omega)
    rw [Nat.add_zero] at m1
    rw [show i + (H - 1) = i + H - 1 by omega] at m2
    by_cases c : (if 2 * ns.getD (i + H - 1) 0 - p < 0 then -(2 * ns.getD (i + H - 1) 0 - p) else 2 * ns.getD (i + H - 1) 0 - p) > (if 2 * ns.getD i 0 - p < 0 then -(2 * ns.getD i 0 - p) else 2 * ns.getD i 0 - p)
    · rw [if_pos c] at hr
      exact ⟨_, m2, by omega⟩
    · rw [if_neg c] at hr
      exact ⟨_, m1, by omega⟩
  refine kth_count ?_ ?_
  · unfold dist
    rw [List.countP_map, sp, List.countP_append, List.countP_append]
    have z1 : (ns.take i).countP ((fun a => decide (a < r)) ∘ fun x => if 2 * x - p < 0 then -(2 * x - p) else 2 * x - p) = 0 := List.countP_eq_zero.mpr fun x hx => by simpa using pre x hx
    have z2 : ((ns.drop i).drop H).countP ((fun a => decide (a < r)) ∘ fun x => if 2 * x - p < 0 then -(2 * x - p) else 2 * x - p) = 0 := List.countP_eq_zero.mpr fun x hx => by simpa using post x hx
    have z3 : ((ns.drop i).take H).countP ((fun a => decide (a < r)) ∘ fun x => if 2 * x - p < 0 then -(2 * x - p) else 2 * x - p) ≠ H := by
      intro e
      obtain ⟨x, hx, hn⟩ := one
      have := List.countP_eq_length.mp (e.trans wl.symm) x hx
      simp only [Function.comp, decide_eq_true_eq] at this
      exact hn this
    have z4 := List.countP_le_length (p := (fun a => decide (a < r)) ∘ fun x => if 2 * x - p < 0 then -(2 * x - p) else 2 * x - p) (l := (ns.drop i).take H)
    omega
  · unfold dist
    rw [List.countP_map, sp, List.countP_append, List.countP_append]
    have z1 : ((ns.drop i).take H).countP ((fun a => decide (a ≤ r)) ∘ fun x => if 2 * x - p < 0 then -(2 * x - p) else 2 * x - p) = H := by
      refine (List.countP_eq_length.mpr fun x hx => ?_).trans wl
      simpa using win x hx
    omega

theorem reach_val {ns : List Int} {h p lo hi : Int} (o : ns.Pairwise (· ≤ ·)) (hh : 1 ≤ h) (hl : h ≤ ns.length) (B : Bis ns h p lo hi) (e : ¬ lo < hi) :
    (if (if 2 * ns.getD (lo + h - 1).toNat 0 - p < 0 then -(2 * ns.getD (lo + h - 1).toNat 0 - p) else 2 * ns.getD (lo + h - 1).toNat 0 - p) > (if 2 * ns.getD lo.toNat 0 - p < 0 then -(2 * ns.getD lo.toNat 0 - p) else 2 * ns.getD lo.toNat 0 - p)
      then (if 2 * ns.getD (lo + h - 1).toNat 0 - p < 0 then -(2 * ns.getD (lo + h - 1).toNat 0 - p) else 2 * ns.getD (lo + h - 1).toNat 0 - p) else (if 2 * ns.getD lo.toNat 0 - p < 0 then -(2 * ns.getD lo.toNat 0 - p) else 2 * ns.getD lo.toNat 0 - p)) =
    kth (dist p ns) (h.toNat - 1) := by
  obtain ⟨b1, b2, b3, b4, b5⟩ := B
  have e1 : (lo + h - 1).toNat = lo.toNat + h.toNat - 1 := by omega
  rw [e1]
  refine (window (i := lo.toNat) (H := h.toNat) o (by omega) (by omega) (fun k hk => b4 k (by omega)) (fun q => b5 lo.toNat (by omega) (by omega)) rfl).symm

/-- of the turned list the k-th smallest comes from the k-th greatest -/
theorem kth_turned {A : List Int} {P : Int} {k : Nat} (hk : k < A.length) : kth (A.map fun a => P - a.fdiv 2) k = P - (kth A (A.length - 1 - k)).fdiv 2 := by
  have pA := List.mergeSort_perm A (fun a b => decide (a ≤ b))
  have lA : (A.mergeSort (fun a b => decide (a ≤ b))).length = A.length := pA.length_eq
  have p1 : (((A.mergeSort (fun a b => decide (a ≤ b))).map fun a => P - a.fdiv 2).reverse).Perm (A.map fun a => P - a.fdiv 2) := (List.reverse_perm _).trans (pA.map _)
  have o1 : (((A.mergeSort (fun a b => decide (a ≤ b))).map fun a => P - a.fdiv 2).reverse).Pairwise (· ≤ ·) := by
    rw [List.pairwise_reverse, List.pairwise_map]
    refine (srt_pair A).imp fun {a b} h => ?_
    rw [fdiv2, fdiv2]
    omega
  rw [← kth_of p1 o1 k]
  unfold kth
  rw [getD_at (by rw [List.length_reverse, List.length_map, lA]; exact hk), getD_at (by rw [lA]; omega), List.getElem_reverse, List.getElem_map]
  simp only [List.length_map, lA]

theorem law1 {S R : List Int} {P : Int} (p : R.Perm S) (hn : 0 < S.length) :
    [kth (dist P S) (((dist P S).length + 1) / 2 - 1), kth (dist P S) ((dist P S).length / 2)] =
    [kth (dist P R) ((((R.length : Int) + 1).fdiv 2).toNat - 1), kth (dist P R) (((R.length : Int).fdiv 2 + 1).toNat - 1)] := by
  have e := p.length_eq
  have d : (dist P R).Perm (dist P S) := p.map _
  have l : (dist P S).length = S.length := by unfold dist; rw [List.length_map]
  rw [kth_perm d, kth_perm d, l, fdiv2, fdiv2, e]
  have e1 : (((S.length : Int) + 1) / 2).toNat - 1 = (S.length + 1) / 2 - 1 := by omega
  have e2 : ((S.length : Int) / 2 + 1).toNat - 1 = S.length / 2 := by omega
  rw [e1, e2]
theorem law2 {S R : List Int} {P : Int} (p : R.Perm S) (hn : 0 < S.length) :
    [kth ((dist P S).map fun a => P - a.fdiv 2) (((dist P S).map fun a => P - a.fdiv 2).length / 2), kth ((dist P S).map fun a => P - a.fdiv 2) ((((dist P S).map fun a => P - a.fdiv 2).length + 1) / 2 - 1)] =
    [P - (kth (dist P R) ((((R.length : Int) + 1).fdiv 2).toNat - 1)).fdiv 2, P - (kth (dist P R) (((R.length : Int).fdiv 2 + 1).toNat - 1)).fdiv 2] := by
  have e := p.length_eq
  have d : (dist P R).Perm (dist P S) := p.map _
  have l : (dist P S).length = S.length := by unfold dist; rw [List.length_map]
  rw [List.length_map, kth_perm d, kth_perm d, l]
  rw [kth_turned (by rw [l]; omega), kth_turned (by rw [l]; omega), l, fdiv2 (↑R.length + 1), fdiv2 ↑R.length, e]
  have e1 : (((S.length : Int) + 1) / 2).toNat - 1 = S.length - 1 - S.length / 2 := by omega
  have e2 : ((S.length : Int) / 2 + 1).toNat - 1 = S.length - 1 - ((S.length + 1) / 2 - 1) := by omega
  rw [e1, e2]
theorem law3 {A : List Int} {P : Int} : (A.map fun a => a.fdiv 2) = ((A.map fun a => P - a.fdiv 2).map fun a => P - a) := by
  rw [List.map_map]
  refine List.map_congr_left fun a _ => ?_
  simp only [Function.comp]
  omega

-- 2. Rules that the library lacks: a range object in the ledger, its length, its items; a list's item at an open place
abbrev rangeObj (a b c : Int) (t u v : Tok) : Obj := { cls := .type "range", dict := none, data := .fields #[.int a t, .int b u, .int c v], slots := #[] }
theorem range_led {prog : Program} {w : World} {A : Around} {E : Value → Shared → Prop} {s : Shared} {h₀ : Heap} {L : Addr} {m : Str → Option Value} {news : List (Addr × Obj)} {n : Int} {t : Tok} {Q : Value → Shared → Prop}
    (F : Fr h₀ L s.heap m) (N : News h₀ L s.heap news)
    (h : ∀ r h' u v tk, Fr h₀ L h' m → News h₀ L h' ((r, rangeObj 0 n 1 u t v) :: news) → (∀ q ∈ news, q.1 < r) → Q (.ref r) { s with heap := h', toks := tk }) :
    wpAny (model prog w) A (call (.type "range") [.int n t]) Q E s :=
  call_range_1 (h _ _ _ _ _ (F.push _) (N.push F _ rfl) (fun q hq => Heap.lt_size (N q hq).1))

theorem len_led {prog : Program} {w : World} {A : Around} {E : Value → Shared → Prop} {s : Shared} {h₀ : Heap} {L r : Addr} {news : List (Addr × Obj)} {n : Int} {t u v : Tok} {Q : Value → Shared → Prop}
    (N : News h₀ L s.heap news) (hm : (r, rangeObj 0 n 1 u t v) ∈ news) (h0 : 0 ≤ n) (h1 : n < 2 ^ 62)
    (h : Q (.int n (s.toks + 1)) { s with toks := s.toks + 1 + 1 }) :
    wpAny (model prog w) A (call (.builtin "len") [.ref r]) Q E s := by
  obtain ⟨k, rfl⟩ := Int.eq_ofNat_of_zero_le h0
  refine call_len_range (n := k) (N _ hm).1 ?_ (by omega) h
  have := rangeSize_nat 0 (k : Int)
  simpa using this

theorem getItem_range {prog : Program} {w : World} {A : Around} {E : Value → Shared → Prop} {s : Shared} {r : Addr} {a b k : Int} {t u v tk : Tok} {Q : Value → Shared → Prop}
    (hr : IsRange s.heap r a b 1 t u v) (h0 : 0 ≤ k) (h1 : k < b - a) (hQ : ∀ tk', Q (.int (a + k) tk') { s with toks := s.toks + 1 }) :
    wpAny (model prog w) A (getItem (.ref r) (.int k tk)) Q E s := by
  have hT : s.TypeIs (.ref r) "range" := ⟨_, hr, rfl⟩
  unfold getItem
  try with_reducible refine wpAny_holding ?_
  first | refine wpAny_bind (wpAny_pure ?_) | skip
  refine wpAny_bind (wpAny_sequenceKey hT (by decide) ?_)
  refine wpAny_bind (wpAny_callSpecial?_slot (name := Str.ofString "__getitem__") hT F.slot_range_getitem
    (wpAny_call_entry F.slot_range_getitem hT F.entry_range_getitem ?_ (F.args_range_getitem_2 _ _)))
  have hsz : Builtin.Range.rangeSize a b 1 = b - a := by rw [rangeSize_nat]; omega
  obtain ⟨hp, g, d, tk0, os⟩ := s
  wp_walk using wpAny_loadPart' hr
  rw [int_index]
  refine wpAny_pure ?_
  simp only [Option.isNone_some, Bool.false_eq_true, if_false]
  refine wpAny_bind (wpAny_of_eq (a := k) rfl ?_)
  have e1 : (if k < 0 then k + Builtin.Range.rangeSize a b 1 else k) = k := if_neg (by omega)
  have e2 : (decide (k < 0) || decide (k ≥ b - a)) = false := by
    simp only [Bool.or_eq_false_iff, decide_eq_false_iff_not]; omega
  simp only [hsz] at e1 ⊢
  simp only [e1, e2, Bool.false_eq_true, if_false, Int.mul_one]
  wp_walk
  exact ⟨_, rfl, wpAny_pure (hQ _)⟩

theorem item_led {prog : Program} {w : World} {A : Around} {E : Value → Shared → Prop} {s : Shared} {h₀ : Heap} {L r : Addr} {news : List (Addr × Obj)} {value slice : Expr} {n k : Int} {t u v tk : Tok} {Q : Value → Shared → Prop}
    (N : News h₀ L s.heap news) (hm : (r, rangeObj 0 n 1 u t v) ∈ news) (h0 : 0 ≤ k) (h1 : k < n) (h : ∀ tk', Q (.int k tk') { s with toks := s.toks + 1 })
    (hs : subscripted slice false (.ref r) (.int k tk) = operate [.ref r, .int k tk] (getItem (.ref r) (.int k tk)) := by with_unfolding_all rfl) :
    wpAny (model prog w) A (subscriptTail value slice (.ref r) (.int k tk)) Q E s :=
  tail_any (T := "range") ⟨_, (N _ hm).1, rfl⟩ F.slot_range_getitem.lookup (getItem_range (N _ hm).1 h0 (by omega) (fun tk' => by rw [Int.zero_add]; exact h tk')) hs
theorem item_ints {prog : Program} {w : World} {A : Around} {E : Value → Shared → Prop} {s : Shared} {h₀ : Heap} {L l : Addr} {news : List (Addr × Obj)} {value slice : Expr} {vs : List Value} {ns : List Int} {nn : Nat} {k : Int} {u : Tok} {Q : Value → Shared → Prop}
    (N : News h₀ L s.heap news) (hm : (l, W.listOf vs.toArray nn) ∈ news) (hi : IntsAre vs ns) (h0 : 0 ≤ k) (h1 : k < ns.length) (hz : ns.length < 2 ^ 62) (h : ∀ t, Q (.int (ns.getD k.toNat 0) t) s)
    (hs : subscripted slice false (.ref l) (.int k u) = operate [.ref l, .int k u] (getItem (.ref l) (.int k u)) := by with_unfolding_all rfl) (hg : ∀ r, letTemporaryGo value (.ref l) r = pure () := by intro _; with_unfolding_all rfl) :
    wpAny (model prog w) A (subscriptTail value slice (.ref l) (.int k u)) Q E s := by
  obtain ⟨t, hx⟩ := hi.get k.toNat (ns.getD k.toNat 0) (by simp [show k.toNat < ns.length by omega])
  exact item_listL ⟨_, (N _ hm).1, rfl, nn, rfl⟩ h0 (by omega) hx (h t) hs hg

-- 3. A def with a try in it, called from a frame that has cells
theorem frame_only {env : Env} {L b : Addr} (hf : env.frame = some L) (hb : b ∈ [env].filterMap (·.frame)) : b = L := by
  obtain ⟨e, he, hq⟩ := List.mem_filterMap.mp hb
  rw [List.mem_singleton.mp he, hf] at hq
  exact (Option.some.inj hq).symm
/-- back in the caller's frame, whatever slots its dict has got meanwhile -/
theorem back_try {env : Env} {h₀ g : Heap} {L : Addr} {m : Str → Option Value} {R : Result → Shared → Prop} {v : Value} {s' : Shared} (hf : env.frame = some L) (FG : Fr h₀ L g m) (hl : LeaveS0 ([env].filterMap (·.frame)) h₀ L m g R v s') : R (.ok (.ret v)) s' := by
  obtain ⟨g', L', m', news', T', F', N', k⟩ := hl
  obtain ⟨o, es, ep, ho, hd, hks, hfi⟩ := FG.ns
  obtain ⟨sl, hsl⟩ := T'.up ho
  have none₀ : h₀.get? L = none := kts_self FG
  have up : ∀ b x, h₀.get? b = some x → g'.get? b = some x := fun b x e => T'.other b x (FG.keep b x e) fun hb => by
    rw [frame_only hf hb, none₀] at e
    cases e
  refine k ⟨⟨_, es, ep, F'.keep _ _ hsl, hd, hks, hfi⟩, fun b x e => F'.keep b x (up b x e), FG.above⟩ fun p hp => ⟨(N' p hp).1, fun q => ?_, ?_⟩
  · have z := (N' p hp).2.2
    rw [q, hsl] at z
    cases z
  · cases q : h₀.get? p.1 with
    | none => rfl
    | some x =>
      have z := (N' p hp).2.2
      rw [up _ _ q] at z
      cases z
/-- a def with a try in it, called from a frame that may have cells -/
theorem enter_try {prog : Program} {w : World} {A₀ A : Around} {s : Shared} {base h₀ : Heap} {L : Addr} {m : Str → Option Value} {env : Env} {news : List (Addr × Obj)} {K : Frag} {p : Program} {loose : List Str} {mean : ExcName → Option Value} {mg mb : Str → Option Value}
    {R : Result → Shared → Prop} {name qual : Str} {params : Arguments} {body : List Stmt} {scope : Scope} {dV kV doc pm cdv ct oc : Value} {an od : Option Addr} {osl : Array (Option Value)} {f : Addr} {args : Args} {binds : List (Str × Value)}
    (B : Below A₀ base [] h₀) (F : Fr h₀ L s.heap m) (X : K.In h₀) (N : News h₀ L s.heap news) (T : Top p loose mean mg mb h₀) (hA : A.frames = some [env]) (hf : env.frame = some L) (hke : env.scope.kind = .function)
    (ho : K.lookup f = some ⟨oc, od, .func (fnOf name qual params body scope dV kV doc pm an cdv ct), osl⟩) (hcd : codeIn K cdv qual = true) (hroom : A.depth < recursionLimit)
    (hbind : BindsTo s (fnOf name qual params body scope dV kV doc pm an cdv ct) args binds) (hloc : ∀ y ∈ binds, scope.names.lookup y.1 = some .local)
    (h : ∀ g L' h₁, Fr h₀ L g m → Fr g L' h₁ (fun y => binds.reverse.lookup y) → News g L' h₁ news → Below A base [env] g → K.In g → Top p loose mean mg mb g → KtsDicts ([env].filterMap (·.frame)) g →
      wpAny (model prog w) (A.deeper (envOf qual scope L' f cdv)) (execs body (envOf qual scope L' f cdv))
        (fun fl s' => LeaveS0 ([env].filterMap (·.frame)) h₀ L m g R (match fl with | .ret v => v | _ => .none) s')
        (fun e s' => wpAny (model prog w) (A.deeper (envOf qual scope L' f cdv)) (leaving (envOf qual scope L' f cdv) e) (fun _ s'' => R (.error e) s'') (fun e' s'' => R (.error e') s'') s')
        { s with heap := h₁, toks := s.toks + binds.length })
    (hco : scope.isCoroutine = false) (hgen : scope.isGenerator = false) (hk : scope.kind = .function) (hcell : ∀ x ∈ scope.names, x.2 ≠ .cell) : codeAny (model prog w) A (.call (.ref f) args) R s := by
  obtain ⟨FG, BG, st, _⟩ := groundX (R := R) B F N hA hf hke
  have XS := X.keeps F.keep
  refine codeAny_call_def (fd := fnOf name qual params body scope dV kV doc pm an cdv ct) (body := body) (binds := binds) hroom (XS _ _ ho) rfl (T.nolimit.keeps F.keep) (codeRec_of XS hcd) rfl hbind hcell hloc (fun h₁ hns hk₁ => ?_) hco hgen hk
  have dicts : KtsDicts ([env].filterMap (·.frame)) (hideAll s.heap (news.map (·.1))) := fun b hb => by
    obtain ⟨o, es, ep, hL, hd, _⟩ := FG.ns
    rw [frame_only hf hb]
    exact ⟨o, es, ep, hL, hd⟩
  refine wpAny_mono (h _ s.heap.objs.size h₁ FG ⟨hns, fun b o e => hk₁ b o (of_hideAll _ e), Nat.le_of_eq (hideAll_size _ _)⟩ (fun q hq => ⟨hk₁ _ _ (N q hq).1, Nat.ne_of_lt (Heap.lt_size (N q hq).1), hideAll_none _ (List.mem_map_of_mem hq)⟩) BG (X.keeps st) (T.keeps st) dicts)
    (fun fl s' hl => back_try hf FG hl) fun _ _ y => y

-- 4. What the called defs give back; the loops of the law
/-- a def of one list of ints that gives back its ix-th smallest -/
def MedC (prog : Program) (w : World) (K : Frag) (p : Program) (loose : List Str) (mean : ExcName → Option Value) (mg mb : Str → Option Value) (f : Addr) (ix : Nat → Nat) : Prop :=
  ∀ (dp un : Nat) (gd : Option (List Code)) (cn : Str) (cs : Scope) (a : Addr) (ccd : Value) (cl : List (Str × Addr)) (outer : List Env) (A₀ : Around) (base h₀ : Heap) (L : Addr) (m : Str → Option Value) (news : List (Addr × Obj)) (s : Shared)
    (l : Addr) (vs : List Value) (ns : List Int) (nn : Nat) (Q E : Value → Shared → Prop),
    Below A₀ base outer h₀ → Fr h₀ L s.heap m → K.In h₀ → News h₀ L s.heap ((l, W.listOf vs.toArray nn) :: news) → Top p loose mean mg mb h₀ → cs.kind = .function →
    IntsAre vs ns → ns ≠ [] → ns.length < 64 → dp + 1 < recursionLimit → un + 8 < cLine →
    (∀ (t : Tok) (h' : Heap) (tk' : Nat), Fr h₀ L h' m → News h₀ L h' ((l, W.listOf vs.toArray nn) :: news) → Q (.int (kth ns (ix ns.length)) t) { s with heap := h', toks := tk' }) →
    wpAny (model prog w) (ktrTop dp un gd cn cs L a ccd cl outer) (call (.ref f) [.ref l]) Q E s
section
variable {prog : Program} {w : World} {K : Frag} {p : Program} {loose : List Str} {mean : ExcName → Option Value} {mg mb : Str → Option Value} {f : Addr} {ix : Nat → Nat}
  {dp un : Nat} {gd : Option (List Code)} {cn : Str} {cs : Scope} {a : Addr} {ccd : Value} {cl : List (Str × Addr)} {outer : List Env} {A₀ : Around} {base h₀ : Heap} {L : Addr} {m : Str → Option Value} {led : List (Addr × Obj)} {s : Shared}
  {l : Addr} {vs : List Value} {ns : List Int} {nn : Nat} {Q E : Value → Shared → Prop}
theorem use_med (C : MedC prog w K p loose mean mg mb f ix) (B : Below A₀ base outer h₀) (F : Fr h₀ L s.heap m) (X : K.In h₀) (N : News h₀ L s.heap led) (T : Top p loose mean mg mb h₀) (hk : cs.kind = .function)
    (hm : (l, W.listOf vs.toArray nn) ∈ led) (hi : IntsAre vs ns) (hne : ns ≠ []) (h64 : ns.length < 64) (hd : dp + 1 < recursionLimit) (hu : un + 8 < cLine)
    (ret : ∀ (t : Tok) (h' : Heap) (tk' : Nat), Fr h₀ L h' m → News h₀ L h' led → Q (.int (kth ns (ix ns.length)) t) { s with heap := h', toks := tk' }) :
    wpAny (model prog w) (ktrTop dp un gd cn cs L a ccd cl outer) (call (.ref f) [.ref l]) Q E s :=
  C _ _ _ _ _ _ _ _ _ _ _ _ _ _ led _ _ _ _ _ _ _ B F X (fun q hq => by
    rcases List.mem_cons.mp hq with rfl | hq
    · exact N _ hm
    · exact N q hq) T hk hi hne h64 hd hu fun t h' tk' F' N' => ret t h' tk' F' fun q hq => N' q (.tail _ hq)
end

/-- the code table of _law_reach once its lambda has been made: the lambda's code object -/
abbrev tab1 (P c : Addr) : Addr × Obj := (P, tabObj #[rawInt 48, rawInt 52, .ref c])
/-- the table's part of the ledger: none, no call yet; some, the lambda's code object -/
def tabO : Option (Addr × Obj) → Obj
  | none => tabObj #[]
  | some co => tabObj #[rawInt 48, rawInt 52, .ref co.1]
def TabR : Option (Addr × Obj) → List (Addr × Obj)
  | none => []
  | some co => [co]
abbrev TabL (P : Addr) (st : Option (Addr × Obj)) : List (Addr × Obj) := (P, tabO st) :: TabR st
def StOk (st : Option (Addr × Obj)) : Prop := ∀ co, st = some co → ∃ fs t, co.2.data = .fields fs ∧ (fs : Array Value)[1]? = some (.str (Str.ofString "_law_reach.<locals>.<lambda>") t)

inductive TabU (P : Addr) (st : Option (Addr × Obj)) (own : List (Addr × Obj)) : List (Addr × Obj) → List (Addr × Obj) → ((Addr × Obj) → List (Addr × Obj)) → Prop
  | here : TabU P st own ((P, tabO st) :: (TabR st ++ own)) own (fun co => tab1 P co.1 :: co :: own)
  | full {co : Addr × Obj} : st = some co → TabU P st own (tab1 P co.1 :: co :: own) own (fun co => tab1 P co.1 :: co :: own)
  | next {a l r g} : TabU P st own l r g → TabU P st own (a :: l) (a :: r) (fun co => a :: g co)
theorem TabU.mem {P : Addr} {st : Option (Addr × Obj)} {own l r : List (Addr × Obj)} {g : (Addr × Obj) → List (Addr × Obj)} (U : TabU P st own l r g) : (∀ p ∈ TabL P st ++ r, p ∈ l) ∧ (∀ co, ∀ p ∈ g co, p ∈ tab1 P co.1 :: co :: r) ∧ ∀ p ∈ l, p ∈ TabL P st ++ r := by
  induction U with
  | here => exact ⟨fun p hp => hp, fun co p hp => hp, fun p hp => hp⟩
  | full e => subst e; exact ⟨fun p hp => hp, fun co p hp => hp, fun p hp => hp⟩
  | next U ih =>
    obtain ⟨i1, i2, i3⟩ := ih
    refine ⟨fun p hp => ?_, fun co p hp => ?_, fun p hp => ?_⟩
    · rcases List.mem_append.mp hp with hp | hp
      · exact .tail _ (i1 p (List.mem_append.mpr (.inl hp)))
      · rcases List.mem_cons.mp hp with rfl | hp
        · exact .head _
        · exact .tail _ (i1 p (List.mem_append.mpr (.inr hp)))
    · rcases List.mem_cons.mp hp with rfl | hp
      · simp
      · have := i2 co p hp
        simp only [List.mem_cons] at this ⊢
        rcases this with h | h | h
        · exact .inl h
        · exact .inr (.inl h)
        · exact .inr (.inr (.inr h))
    · rcases List.mem_cons.mp hp with rfl | hp
      · simp
      · have := i3 p hp
        simp only [List.mem_append, List.mem_cons] at this ⊢
        rcases this with h | h
        · exact .inl h
        · exact .inr (.inr h)

/-- a call of _law_reach: the hs-th smallest distance from half of pt; the lambda's code object stands behind it -/
def ReachC (prog : Program) (w : World) (K : Frag) (p : Program) (loose : List Str) (mean : ExcName → Option Value) (mg mb : Str → Option Value) (f cc P : Addr) : Prop :=
  ∀ (dp un : Nat) (gd : Option (List Code)) (cn : Str) (cs : Scope) (a : Addr) (ccd : Value) (cl : List (Str × Addr)) (outer : List Env) (A₀ : Around) (base h₀ : Heap) (L : Addr) (m : Str → Option Value) (st : Option (Addr × Obj)) (news : List (Addr × Obj)) (s : Shared)
    (l : Addr) (vs : List Value) (ns : List Int) (nn : Nat) (hs : Int) (th : Tok) (pt : Int) (tp : Tok) (Q E : Value → Shared → Prop),
    Below A₀ base outer h₀ → Fr h₀ L s.heap m → K.In h₀ → News h₀ L s.heap ((l, W.listOf vs.toArray nn) :: (TabL P st ++ news)) → Top p loose mean mg mb h₀ → CodeHd base cc P → cs.kind = .function →
    StOk st → l ≠ P → OwnOff news [P] →
    IntsAre vs ns → ns.Pairwise (· ≤ ·) → 1 ≤ hs → hs ≤ ns.length → ns.length < 64 → dp + 3 < recursionLimit → un + 24 < cLine →
    (∀ (t : Tok) (h' : Heap) (tk' : Nat) (co : Addr × Obj), Fr h₀ L h' m → News h₀ L h' ((l, W.listOf vs.toArray nn) :: tab1 P co.1 :: co :: news) → StOk (some co) → (st = some co ∨ (P < co.1 ∧ ∀ q ∈ news, q.1 < co.1)) →
      Q (.int (kth (dist pt ns) (hs.toNat - 1)) t) { s with heap := h', toks := tk' }) →
    wpAny (model prog w) (ktrTop dp un gd cn cs L a ccd cl outer) (call (.ref f) [.ref l, .int hs th, .int pt tp]) Q E s
section
variable {prog : Program} {w : World} {K : Frag} {p : Program} {loose : List Str} {mean : ExcName → Option Value} {mg mb : Str → Option Value} {f cc P : Addr}
  {dp un : Nat} {gd : Option (List Code)} {cn : Str} {cs : Scope} {a : Addr} {ccd : Value} {cl : List (Str × Addr)} {outer : List Env} {A₀ : Around} {base h₀ : Heap} {L : Addr} {m : Str → Option Value} {st : Option (Addr × Obj)} {own led rest : List (Addr × Obj)} {g : (Addr × Obj) → List (Addr × Obj)} {s : Shared}
  {l : Addr} {vs : List Value} {ns : List Int} {nn : Nat} {hs : Int} {th : Tok} {pt : Int} {tp : Tok} {Q E : Value → Shared → Prop}
theorem use_reach (C : ReachC prog w K p loose mean mg mb f cc P) (B : Below A₀ base outer h₀) (F : Fr h₀ L s.heap m) (X : K.In h₀) (N : News h₀ L s.heap led) (T : Top p loose mean mg mb h₀) (H : CodeHd base cc P) (hk : cs.kind = .function)
    (U : TabU P st own led rest g) (ok : StOk st) (hm : (l, W.listOf vs.toArray nn) ∈ rest) (hoff : ∀ q ∈ rest, q.1 ≠ P)
    (hi : IntsAre vs ns) (hso : ns.Pairwise (· ≤ ·)) (h1 : 1 ≤ hs) (h2 : hs ≤ ns.length) (h64 : ns.length < 64) (hd : dp + 3 < recursionLimit) (hu : un + 24 < cLine)
    (ret : ∀ (t : Tok) (h' : Heap) (tk' : Nat) (co : Addr × Obj), Fr h₀ L h' m → News h₀ L h' (g co) → StOk (some co) → (st = some co ∨ (P < co.1 ∧ ∀ q ∈ rest, q.1 < co.1)) →
      Q (.int (kth (dist pt ns) (hs.toNat - 1)) t) { s with heap := h', toks := tk' }) :
    wpAny (model prog w) (ktrTop dp un gd cn cs L a ccd cl outer) (call (.ref f) [.ref l, .int hs th, .int pt tp]) Q E s := by
  obtain ⟨u1, u2, _⟩ := U.mem
  refine C dp un gd cn cs a ccd cl outer A₀ base h₀ L m st rest s l vs ns nn hs th pt tp Q E B F X (fun q hq => ?_) T H hk ok (hoff _ hm) (fun q hq b hb => ?_) hi hso h1 h2 h64 hd hu fun t h' tk' co F' N' ok' hst => ret t h' tk' co F' (fun q hq => N' q (.tail _ (u2 co q hq))) ok' hst
  · rcases List.mem_cons.mp hq with rfl | hq
    · exact N _ (u1 _ (List.mem_append.mpr (.inr hm)))
    · exact N q (u1 q hq)
  · rw [List.mem_singleton.mp hb]; exact hoff q hq
end

section
variable {prog : Program} {w : World} {A : Around} {E : Value → Shared → Prop} {s : Shared} {env : Env} {h₀ : Heap} {x : Str} {body : List Stmt} {Q : Flow → Shared → Prop}
/-- a loop over a range that keeps a state σ in the ledger, forgets some names, leaves the others -/
def LoopJ {σ : Type} (Lf : σ → List (Addr × Obj)) (Ok : σ → Prop) (x : Str) (stored : List Str) (m₀ : Str → Option Value) (m : Str → Option Value) (nx : List (Addr × Obj)) : Prop :=
  ∃ c, nx = Lf c ∧ Ok c ∧ ∀ z, z ≠ x → stored.contains z = false → m z = m₀ z
theorem loopR {σ : Type} {r : Addr} {a₀ b₀ : Int} {t₀ u₀ v₀ : Tok} {n : Nat} {m₀ : Str → Option Value} (Lf : σ → List (Addr × Obj)) (Ok : σ → Prop) (stored : List Str) (c₀ : σ)
    (hh : A.handled = none) (hr : IsRange s.heap r a₀ b₀ 1 t₀ u₀ v₀) (hsmall : Builtin.Range.small a₀ b₀ 1 = true) (hn : Builtin.Range.rangeSize a₀ b₀ 1 = (n : Int)) (F : Fr h₀ env.locals s.heap m₀) (N : News h₀ env.locals s.heap (Lf c₀)) (ok : Ok c₀)
    (turn : ∀ (c : σ) (k : Int) t (u : Str → Option Value) h tk own, a₀ ≤ k → k < a₀ + (n : Int) → TbOff own (Lf c) → Ok c →
      Fr h₀ env.locals h (fun y => if y = x then some (.int k t) else if stored.contains y then u y else m₀ y) → News h₀ env.locals h (Lf c ++ own) →
      wpAny (model prog w) A (execs body env) (TbPost h₀ env.locals (LoopJ Lf Ok x stored m₀) own { s with heap := h, toks := tk } Q) E { s with heap := h, toks := tk })
    (done : ∀ (c : σ) (u : Str → Option Value) h tk, Ok c → Fr h₀ env.locals h (fun y => if y = x then u y else if stored.contains y then u y else m₀ y) → News h₀ env.locals h (Lf c) → Q .next { s with heap := h, toks := tk }) :
    wpAny (model prog w) A (pyIter (.ref r)) (fun it s₂ => LoopAtV prog w A h₀ env x body Q E it s₂) E s := by
  refine tbr_invG (fun _ => LoopJ Lf Ok x stored m₀) hh hr hsmall hn F N ⟨c₀, rfl, ok, fun _ _ _ => rfl⟩ ?_ ?_
  · rintro i k t m₁ nx h tk own hk hoff ⟨c, rfl, okc, hm⟩ F₁ N₁
    have hb := mem_rangeKs (List.mem_of_getElem? hk)
    have e : (fun y => if y = x then some (Value.int k t) else m₁ y) = fun y => if y = x then some (Value.int k t) else if stored.contains y then m₁ y else m₀ y := by
      funext y
      by_cases h1 : y = x
      · simp [h1]
      · simp only [if_neg h1]
        cases h2 : stored.contains y with
        | true => simp
        | false => simp only [Bool.false_eq_true, if_false]; exact hm y h1 h2
    rw [e] at F₁
    exact turn c k t m₁ h tk own hb.1 hb.2 hoff okc F₁ N₁
  · rintro m₁ nx h tk ⟨c, rfl, okc, hm⟩ F₁ N₁
    have e : (fun y => if y = x then m₁ y else if stored.contains y then m₁ y else m₀ y) = m₁ := by
      funext y
      by_cases h1 : y = x
      · simp [h1]
      · simp only [if_neg h1]
        cases h2 : stored.contains y with
        | true => simp
        | false => simp only [Bool.false_eq_true, if_false]; exact (hm y h1 h2).symm
    exact done c m₁ h tk okc (by rw [e]; exact F₁) N₁
end

/-- what the law's loops keep: the sorted row, the script, the cell of point, the table -/
abbrev Led (P rw sc cl : Addr) (ro so : Obj) (c : Obj × Option (Addr × Obj)) : List (Addr × Obj) := (rw, ro) :: (sc, so) :: (cl, c.1) :: TabL P c.2
def LOk (av : List Addr) (c : Obj × Option (Addr × Obj)) : Prop := (∃ v, c.1.data = .cell v) ∧ StOk c.2 ∧ ∀ co, c.2 = some co → ∀ b ∈ av, b ≠ co.1
section
variable {prog : Program} {w : World} {A : Around} {E : Value → Shared → Prop} {s : Shared} {env : Env} {h₀ : Heap} {x : Str} {body : List Stmt} {Q : Flow → Shared → Prop}
theorem loop0 {r : Addr} {b₀ : Int} {t₀ u₀ v₀ : Tok} {n : Nat} {m₀ : Str → Option Value} {P rw sc cl : Addr} {ro so cell : Obj} {v : Option Value} (stored : List Str)
    (hh : A.handled = none) (hr : IsRange s.heap r 0 b₀ 1 t₀ u₀ v₀) (hsmall : Builtin.Range.small 0 b₀ 1 = true) (hn : Builtin.Range.rangeSize 0 b₀ 1 = (n : Int)) (F : Fr h₀ env.locals s.heap m₀) (N : News h₀ env.locals s.heap [(rw, ro), (sc, so), (cl, cell), (P, tabObj #[])]) (hc : cell.data = .cell v)
    (turn : ∀ (cell : Obj) (st : Option (Addr × Obj)) (k : Int) t (u : Str → Option Value) h tk own, 0 ≤ k → k < (n : Int) → TbOff own (Led P rw sc cl ro so (cell, st)) → LOk [rw, sc, cl] (cell, st) →
      Fr h₀ env.locals h (fun y => if y = x then some (.int k t) else if stored.contains y then u y else m₀ y) → News h₀ env.locals h (Led P rw sc cl ro so (cell, st) ++ own) →
      wpAny (model prog w) A (execs body env) (TbPost h₀ env.locals (LoopJ (Led P rw sc cl ro so) (LOk [rw, sc, cl]) x stored m₀) own { s with heap := h, toks := tk } Q) E { s with heap := h, toks := tk })
    (done : ∀ (cell : Obj) (st : Option (Addr × Obj)) (u : Str → Option Value) h tk, LOk [rw, sc, cl] (cell, st) → Fr h₀ env.locals h (fun y => if y = x then u y else if stored.contains y then u y else m₀ y) → News h₀ env.locals h (Led P rw sc cl ro so (cell, st)) → Q .next { s with heap := h, toks := tk }) :
    wpAny (model prog w) A (pyIter (.ref r)) (fun it s₂ => LoopAtV prog w A h₀ env x body Q E it s₂) E s :=
  loopR (Led P rw sc cl ro so) (LOk [rw, sc, cl]) stored (cell, none) hh hr hsmall hn F N ⟨⟨v, hc⟩, (by intro _ e; cases e), (by intro _ e; cases e)⟩
    (fun c k t u h tk own h1 h2 h3 h4 h5 h6 => turn c.1 c.2 k t u h tk own h1 (by omega) h3 h4 h5 h6) (fun c u h tk h1 h2 h3 => done c.1 c.2 u h tk h1 h2 h3)

/-- the inner loop: own, the outer loop's iterator, stays -/
theorem loop1 {r : Addr} {b₀ : Int} {t₀ u₀ v₀ : Tok} {n : Nat} {m₀ : Str → Option Value} {P rw sc cl : Addr} {ro so cell : Obj} {st : Option (Addr × Obj)} {own : List (Addr × Obj)} (stored : List Str)
    (hh : A.handled = none) (hr : IsRange s.heap r 0 b₀ 1 t₀ u₀ v₀) (hsmall : Builtin.Range.small 0 b₀ 1 = true) (hn : Builtin.Range.rangeSize 0 b₀ 1 = (n : Int)) (F : Fr h₀ env.locals s.heap m₀)
    (N : News h₀ env.locals s.heap ((rw, ro) :: (sc, so) :: (cl, cell) :: (P, tabO st) :: (TabR st ++ own))) (ok : LOk [rw, sc, cl] (cell, st)) (off : TbOff own (Led P rw sc cl ro so (cell, st))) (hP : P < rw ∧ P < sc ∧ P < cl)
    (turn : ∀ (cell : Obj) (st : Option (Addr × Obj)) (v : Option Value) (k : Int) t (u : Str → Option Value) h tk own', 0 ≤ k → k < (n : Int) → TbOff own' (Led P rw sc cl ro so (cell, st) ++ own) → LOk ([rw, sc, cl] ++ own.map (·.1)) (cell, st) → cell.data = .cell v → StOk st →
      OwnOff (TabR st ++ (own ++ own')) [cl] → OwnOff (own ++ own') [P] →
      Fr h₀ env.locals h (fun y => if y = x then some (.int k t) else if stored.contains y then u y else m₀ y) → News h₀ env.locals h ((rw, ro) :: (sc, so) :: (cl, cell) :: (P, tabO st) :: (TabR st ++ (own ++ own'))) →
      wpAny (model prog w) A (execs body env) (TbPost h₀ env.locals (LoopJ (fun c => Led P rw sc cl ro so c ++ own) (LOk ([rw, sc, cl] ++ own.map (·.1))) x stored m₀) own' { s with heap := h, toks := tk } Q) E { s with heap := h, toks := tk })
    (done : ∀ (cell : Obj) (st : Option (Addr × Obj)) (u : Str → Option Value) h tk, LOk [rw, sc, cl] (cell, st) → TbOff own (Led P rw sc cl ro so (cell, st)) → Fr h₀ env.locals h (fun y => if y = x then u y else if stored.contains y then u y else m₀ y) → News h₀ env.locals h (Led P rw sc cl ro so (cell, st) ++ own) → Q .next { s with heap := h, toks := tk }) :
    wpAny (model prog w) A (pyIter (.ref r)) (fun it s₂ => LoopAtV prog w A h₀ env x body Q E it s₂) E s := by
  have offs : ∀ p ∈ own, p.1 ≠ rw ∧ p.1 ≠ sc ∧ p.1 ≠ cl ∧ p.1 ≠ P := by
    intro p hp
    have hin : ∃ o, (P, o) ∈ TabL P st := by
      cases st with
      | none => exact ⟨_, .head _⟩
      | some co => exact ⟨_, .head _⟩
    obtain ⟨oP, hin⟩ := hin
    exact ⟨off p hp _ (.head _), off p hp _ (.tail _ (.head _)), off p hp _ (.tail _ (.tail _ (.head _))), off p hp (P, oP) (.tail _ (.tail _ (.tail _ hin)))⟩
  have tabs : ∀ {st : Option (Addr × Obj)} {q : Addr × Obj}, q ∈ TabL P st → q.1 = P ∨ st = some q := by
    intro st q hq
    cases st with
    | none => rw [List.mem_singleton.mp hq]; exact .inl rfl
    | some co =>
      rcases List.mem_cons.mp hq with rfl | hq
      · exact .inl rfl
      · rw [List.mem_singleton.mp hq]; exact .inr rfl
  refine loopR (fun c => Led P rw sc cl ro so c ++ own) (LOk ([rw, sc, cl] ++ own.map (·.1))) stored (cell, st) hh hr hsmall hn F (by simpa only [Led, List.cons_append] using N) ⟨ok.1, ok.2.1, fun co e b hb => ?_⟩ ?_ ?_
  · rcases List.mem_append.mp hb with hb | hb
    · exact ok.2.2 co e b hb
    · obtain ⟨q, hq, rfl⟩ := List.mem_map.mp hb
      have e' : st = some co := e
      subst e'
      exact off q hq co (by simp [Led, TabL, TabR])
  · rintro ⟨cell, st⟩ k t u h tk own' h1 h2 h3 h4 h5 h6
    obtain ⟨⟨v, hv⟩, hs, ha⟩ := id h4
    have e3 : ∀ p ∈ own', p.1 ≠ cl ∧ p.1 ≠ P := by
      intro p hp
      have hin : ∃ o, (P, o) ∈ TabL P st := by
        cases st with
        | none => exact ⟨_, .head _⟩
        | some co => exact ⟨_, .head _⟩
      obtain ⟨oP, hin⟩ := hin
      exact ⟨h3 p hp (cl, cell) (.tail _ (.tail _ (.head _))), h3 p hp (P, oP) (.tail _ (.tail _ (.tail _ (List.mem_append.mpr (.inl hin)))))⟩
    refine turn cell st v k t u h tk own' h1 (by omega) h3 h4 hv hs (fun p hp b hb => ?_) (fun p hp b hb => ?_) h5 (by simpa only [Led, List.cons_append, List.append_assoc] using h6)
    · rw [List.mem_singleton.mp hb]
      rcases List.mem_append.mp hp with hp | hp
      · rcases tabs (List.Mem.tail _ hp) with e | e
        · rw [e]; exact Nat.ne_of_lt hP.2.2
        · exact (ha p e cl (by simp)).symm
      · rcases List.mem_append.mp hp with hp | hp
        · exact (offs p hp).2.2.1
        · exact (e3 p hp).1
    · rw [List.mem_singleton.mp hb]
      rcases List.mem_append.mp hp with hp | hp
      · exact (offs p hp).2.2.2
      · exact (e3 p hp).2
  · rintro ⟨cell, st⟩ u h tk h1 h2 h3
    refine done cell st u h tk ⟨h1.1, h1.2.1, fun co e b hb => h1.2.2 co e b (List.mem_append.mpr (.inl hb))⟩ (fun p hp q hq => ?_) h2 h3
    obtain ⟨o1, o2, o3, o4⟩ := offs p hp
    simp only [Led, List.mem_cons] at hq
    rcases hq with rfl | rfl | rfl | hq
    · exact o1
    · exact o2
    · exact o3
    · rcases tabs (List.mem_cons.mpr hq) with e | e
      · rw [e]; exact o4
      · exact h1.2.2 q e p.1 (List.mem_append.mpr (.inr (List.mem_map.mpr ⟨p, hp, rfl⟩)))
theorem comb {P : Addr} {st : Option (Addr × Obj)} {c1 c2 : Addr × Obj} {r1 r2 need : List (Addr × Obj)} (h1 : st = some c1 ∨ (P < c1.1 ∧ ∀ q ∈ r1, q.1 < c1.1)) (h2 : some c1 = some c2 ∨ (P < c2.1 ∧ ∀ q ∈ r2, q.1 < c2.1))
    (s1 : ∀ q ∈ need, q ∈ r1) (s2 : ∀ q ∈ need, q ∈ r2) : st = some c2 ∨ ∀ q ∈ need, q.1 < c2.1 := by
  rcases h2 with e | ⟨_, e⟩
  · cases e
    exact h1.imp id fun e q hq => e.2 q (s1 q hq)
  · exact .inr fun q hq => e q (s2 q hq)
theorem turn0 {P rw sc cl L : Addr} {ro so cell : Obj} {st : Option (Addr × Obj)} {own : List (Addr × Obj)} {stored : List Str} {m₀ m' : Str → Option Value} {s₁ : Shared} {h' : Heap} {tk : Nat}
    (F : Fr h₀ L h' m') (N : News h₀ L h' (Led P rw sc cl ro so (cell, st) ++ own)) (ok : LOk [rw, sc, cl] (cell, st)) (off : TbOff own (Led P rw sc cl ro so (cell, st))) (hm : ∀ z, z ≠ x → stored.contains z = false → m' z = m₀ z) :
    TbEnd h₀ L (LoopJ (Led P rw sc cl ro so) (LOk [rw, sc, cl]) x stored m₀) own s₁ { s₁ with heap := h', toks := tk } :=
  ⟨h', tk, m', _, Led P rw sc cl ro so (cell, st), rfl, F, N, fun p hp => List.mem_append.mpr (.inl hp), fun p hp => List.mem_append.mpr (.inr hp), off, (cell, st), rfl, ok, hm⟩
/-- the end of the inner loop's turn -/
theorem turn1 {P rw sc cl L : Addr} {ro so cell cell' : Obj} {st : Option (Addr × Obj)} {co : Addr × Obj} {own own' led' : List (Addr × Obj)} {stored : List Str} {m₀ m' : Str → Option Value} {v : Option Value} {s₁ : Shared} {h' : Heap} {tk : Nat}
    (F : Fr h₀ L h' m') (N : News h₀ L h' led') (n1 : ∀ p ∈ (rw, ro) :: (sc, so) :: (cl, cell') :: tab1 P co.1 :: co :: (own ++ own'), p ∈ led')
    (off : TbOff own' (Led P rw sc cl ro so (cell, st) ++ own)) (ok : LOk ([rw, sc, cl] ++ own.map (·.1)) (cell, st)) (hv : cell'.data = .cell v) (hs : StOk (some co))
    (hst' : st = some co ∨ ∀ q ∈ (rw, ro) :: (sc, so) :: (cl, cell') :: (own ++ own'), q.1 < co.1) (hm : ∀ z, z ≠ x → stored.contains z = false → m' z = m₀ z) :
    TbEnd h₀ L (LoopJ (fun c => Led P rw sc cl ro so c ++ own) (LOk ([rw, sc, cl] ++ own.map (·.1))) x stored m₀) own' s₁ { s₁ with heap := h', toks := tk } := by
  have hst : st = some co ∨ (∀ b ∈ [rw, sc, cl], b < co.1) ∧ ∀ q ∈ own ++ own', q.1 < co.1 := hst'.imp id fun e => ⟨fun b hb => by
      simp only [List.mem_cons, List.not_mem_nil, or_false] at hb
      rcases hb with rfl | rfl | rfl
      · exact e _ (.head _)
      · exact e _ (.tail _ (.head _))
      · exact e _ (.tail _ (.tail _ (.head _))), fun q hq => e q (.tail _ (.tail _ (.tail _ hq)))⟩
  refine ⟨h', tk, m', led', Led P rw sc cl ro so (cell', some co) ++ own, rfl, F, N, fun p hp => n1 p ?_, fun p hp => n1 p (by simp [hp]), fun p hp q hq => ?_, (cell', some co), rfl, ⟨⟨v, hv⟩, hs, fun co' e b hb => ?_⟩, hm⟩
  · simp only [Led, TabL, TabR, List.mem_append, List.mem_cons, List.not_mem_nil, or_false] at hp ⊢
    rcases hp with (h | h | h | h | h) | h
    · exact .inl h
    · exact .inr (.inl h)
    · exact .inr (.inr (.inl h))
    · exact .inr (.inr (.inr (.inl h)))
    · exact .inr (.inr (.inr (.inr (.inl h))))
    · exact .inr (.inr (.inr (.inr (.inr (.inl h)))))
  · have hin : ∃ o, (P, o) ∈ TabL P st := by
      cases st with
      | none => exact ⟨_, .head _⟩
      | some co => exact ⟨_, .head _⟩
    obtain ⟨oP, hin⟩ := hin
    simp only [Led, TabL, TabR, List.mem_append, List.mem_cons, List.not_mem_nil, or_false] at hq
    rcases hq with (rfl | rfl | rfl | rfl | rfl) | hq
    · exact off p hp (rw, ro) (.head _)
    · exact off p hp (sc, so) (.tail _ (.head _))
    · exact off p hp (cl, cell) (.tail _ (.tail _ (.head _)))
    · exact off p hp (P, oP) (.tail _ (.tail _ (.tail _ (List.mem_append.mpr (.inl hin)))))
    · rcases hst with e | ⟨_, e⟩
      · exact off p hp q (.tail _ (.tail _ (.tail _ (List.mem_append.mpr (.inl (by rw [e]; exact .tail _ (.head _)))))))
      · exact Nat.ne_of_lt (e p (List.mem_append.mpr (.inr hp)))
    · exact off p hp q (.tail _ (.tail _ (.tail _ (List.mem_append.mpr (.inr hq)))))
  · cases e
    rcases hst with e | ⟨e1, e2⟩
    · exact ok.2.2 co e b hb
    · rcases List.mem_append.mp hb with hb | hb
      · exact Nat.ne_of_lt (e1 b hb)
      · obtain ⟨q, hq, rfl⟩ := List.mem_map.mp hb
        exact Nat.ne_of_lt (e2 q (List.mem_append.mpr (.inl hq)))
end
theorem same0 {u u' m₀ : Str → Option Value} {v : Option Value} (z : Str) (h1 : z ≠ Str.ofString "i") (h2 : [Str.ofString "j", Str.ofString "away", Str.ofString "turned", Str.ofString "low", Str.ofString "high"].contains z = false) :
    (if z = Str.ofString "j" then u' z else if [Str.ofString "away", Str.ofString "turned", Str.ofString "low", Str.ofString "high"].contains z = true then u' z else if z = Str.ofString "i" then v
      else if [Str.ofString "j", Str.ofString "away", Str.ofString "turned", Str.ofString "low", Str.ofString "high"].contains z = true then u z else m₀ z) = m₀ z := by
  have h3 := h2
  rw [List.contains_cons, Bool.or_eq_false_iff, beq_eq_false_iff_ne] at h3
  rw [if_neg h3.1, h3.2, h2, if_neg h1]
  rfl
theorem same1 {u' m₀ : Str → Option Value} {v1 v2 v3 v4 v5 : Option Value} (z : Str) (h1 : z ≠ Str.ofString "j") (h2 : [Str.ofString "away", Str.ofString "turned", Str.ofString "low", Str.ofString "high"].contains z = false) :
    (if z = Str.ofString "low" then v1 else if z = Str.ofString "high" then v2 else if z = Str.ofString "turned" then v3 else if z = Str.ofString "away" then v4 else if z = Str.ofString "j" then v5
      else if [Str.ofString "away", Str.ofString "turned", Str.ofString "low", Str.ofString "high"].contains z = true then u' z else m₀ z) = m₀ z := by
  have h3 := h2
  simp only [List.contains_cons, List.contains_nil, Bool.or_false, Bool.or_eq_false_iff, beq_eq_false_iff_ne] at h3
  rw [if_neg h3.2.2.1, if_neg h3.2.2.2, if_neg h3.2.1, if_neg h3.1, if_neg h1, h2]
  rfl
theorem allLt_mem {d : Addr} {l : List (Addr × Obj)} (h : AllLt d l) : ∀ q ∈ l, q.1 < d := by
  induction l with
  | nil => intro q hq; cases hq
  | cons a r ih =>
    intro q hq
    rcases List.mem_cons.mp hq with rfl | hq
    · exact h.1
    · exact ih h.2 q hq
theorem stOk_of {c : Addr} {o : Obj} {fs : Array Value} {t : Tok} (h1 : o.data = .fields fs) (h2 : fs[1]? = some (.str (Str.ofString "_law_reach.<locals>.<lambda>") t)) : StOk (some (c, o)) := by
  intro co e
  cases e
  exact ⟨fs, t, h1, h2⟩
theorem ret_co {h₀ h' : Heap} {L l P : Addr} {m : Str → Option Value} {news led : List (Addr × Obj)} {s : Shared} {Q : Value → Shared → Prop} {t : Tok} {tk' : Nat} {st : Option (Addr × Obj)} {lo : Obj} {x y : Int} (co : Addr × Obj)
    (hret : ∀ (t : Tok) (h' : Heap) (tk' : Nat) (co : Addr × Obj), Fr h₀ L h' m → News h₀ L h' ((l, lo) :: tab1 P co.1 :: co :: news) → StOk (some co) → (st = some co ∨ (P < co.1 ∧ ∀ q ∈ news, q.1 < co.1)) → Q (.int x t) { s with heap := h', toks := tk' })
    (e : y = x) (F : Fr h₀ L h' m) (N : News h₀ L h' led) (m1 : (l, lo) ∈ led) (m2 : tab1 P co.1 ∈ led) (m3 : co ∈ led) (m4 : ∀ q ∈ news, q ∈ led) (ok : StOk (some co)) (hst : st = some co ∨ (P < co.1 ∧ ∀ q ∈ news, q.1 < co.1)) :
    Q (.int y t) { s with heap := h', toks := tk' } := by
  subst e
  refine hret t h' tk' co F (fun q hq => ?_) ok hst
  rcases List.mem_cons.mp hq with rfl | hq
  · exact N _ m1
  · rcases List.mem_cons.mp hq with rfl | hq
    · exact N _ m2
    · rcases List.mem_cons.mp hq with rfl | hq
      · exact N _ m3
      · exact N _ (m4 _ hq)

-- 5. The three claims on the called defs, over the written part of the heap
def AllC (K : Params → Frag) : Prop :=
  ∀ (w : World) (p : Program) (loose : List Str) (mean : ExcName → Option Value) (mg mb : Str → Option Value),
    MedC Challenge.rw_dn0046_01.row.prog w (K w.params) p loose mean mg mb 34 (fun n => (n + 1) / 2 - 1) ∧
    MedC Challenge.rw_dn0046_01.row.prog w (K w.params) p loose mean mg mb 41 (fun n => n / 2) ∧
    ReachC Challenge.rw_dn0046_01.row.prog w (K w.params) p loose mean mg mb 64 63 59
theorem AllC.low {K : Params → Frag} (h : AllC K) {w : World} {p : Program} {loose : List Str} {mean : ExcName → Option Value} {mg mb : Str → Option Value} :
    MedC Challenge.rw_dn0046_01.row.prog w (K w.params) p loose mean mg mb 34 (fun n => (n + 1) / 2 - 1) := (h w p loose mean mg mb).1
theorem AllC.high {K : Params → Frag} (h : AllC K) {w : World} {p : Program} {loose : List Str} {mean : ExcName → Option Value} {mg mb : Str → Option Value} :
    MedC Challenge.rw_dn0046_01.row.prog w (K w.params) p loose mean mg mb 41 (fun n => n / 2) := (h w p loose mean mg mb).2.1
theorem AllC.reach {K : Params → Frag} (h : AllC K) {w : World} {p : Program} {loose : List Str} {mean : ExcName → Option Value} {mg mb : Str → Option Value} :
    ReachC Challenge.rw_dn0046_01.row.prog w (K w.params) p loose mean mg mb 64 63 59 := (h w p loose mean mg mb).2.2
theorem split_walk {C : (Params → Frag) → Prop} {q : Program} {loose : List Str} {XP : (Str → Option Value) → Heap → Prop} {r : RowW} {d : DefRec} {kwd : List (Str × Expr)} {run : Value → List Value → Sem Value} {K : Params → Frag} {as : List Addr}
    {e : ∀ P, as = (K P).map (·.1)} {ts : List Addr} (c : C K) (k : C K → WalkO q loose XP (kmHook K as e ts).says r d kwd run) : WalkO q loose XP (kmHook K as e ts).says r d kwd run := k c
/-- a mark: the walk is within _law_reach -/
structure InReach : Prop where
end Mine

-- 6. Lines of the walk: within _law_reach (under the mark)
local macro_rules | `(tactic| k_room) => `(tactic| ((with_reducible rename Mine.InReach => hIn); (try simp only [depth_under_make, depth_under_kw, depth_in1, depth_deeper, depth_caller]); (try dsimp only [ktrTop]); omega))
local macro_rules | `(tactic| walk_at "call type:range") => `(tactic| (k_here; (with_reducible rename Mine.InReach => hIn); (with_reducible show wpAny _ _ (call (Value.type "range") [Value.int _ _]) _ _ _); (k_dflt (refine' Mine.range_led ?F ?N ?_; (case F => k_asm); (case N => k_asm); k_whole)); intro r' h' u' v' tk' F' N' l1; (try k_lt l1); k_sweep))
local macro_rules | `(tactic| walk_at "call builtin:len") => `(tactic| (k_here; (with_reducible rename Mine.InReach => hIn); (with_reducible show wpAny _ _ (call (Value.builtin "len") [Value.ref _]) _ _ _); (k_dflt (refine' Mine.len_led ?N ?m ?ka ?kb ?_; (case N => k_asm); (case m => k_mem); (case ka => omega); (case kb => omega); k_whole))))
local macro_rules | `(tactic| walk_at "subscriptTail") => `(tactic| (k_here; (with_reducible rename Mine.InReach => hIn); (with_reducible show wpAny _ _ (subscriptTail _ _ (Value.ref _) (Value.int _ _)) _ _ _); first
  | ((with_unfolding_all refine' Mine.item_led ?N ?m ?ka ?kb ?_ ?kc; (case N => k_asm); (case m => k_mem); (case ka => first | omega | ((have hq := Mine.Bis.bnd (by assumption)); omega) | ((have hq := Mine.Bis.mid (by assumption) (by assumption)); omega)); (case kb => first | omega | ((have hq := Mine.Bis.bnd (by assumption)); omega) | ((have hq := Mine.Bis.mid (by assumption) (by assumption)); omega)); (case kc => with_unfolding_all rfl); k_whole); intro tk')
  | ((with_unfolding_all refine' Mine.item_ints ?N ?m ?i ?ka ?kb ?z ?_ ?kc ?d; (case N => k_asm); (case m => k_mem); (case i => assumption); (case ka => first | omega | ((have hq := Mine.Bis.bnd (by assumption)); omega) | ((have hq := Mine.Bis.mid (by assumption) (by assumption)); omega)); (case kb => first | omega | ((have hq := Mine.Bis.bnd (by assumption)); omega) | ((have hq := Mine.Bis.mid (by assumption) (by assumption)); omega)); (case z => omega); (case kc => with_unfolding_all rfl); (case d => (intro _; with_unfolding_all rfl)); k_whole); intro t')))

-- 7. Lines of the walk: within law (the three claims stand in the context)
local macro_rules | `(tactic| walk_at "call ref") => `(tactic| (k_here; (with_reducible rename Mine.AllC _ => hAll); (with_reducible show wpAny _ _ (call (Value.ref _) [Value.ref _]) _ _ _); k_dflt (((first | (refine' Mine.use_med (Mine.AllC.low hAll) ?B ?F ?X ?N ?T ?K ?m ?i ?ne ?z ?d ?u ?_) | (refine' Mine.use_med (Mine.AllC.high hAll) ?B ?F ?X ?N ?T ?K ?m ?i ?ne ?z ?d ?u ?_))); (case B => k_asm); (case F => k_asm); (case X => k_asm); (case N => k_asm); (case T => k_asm); (case K => exact rfl); (case m => k_mem); (case i => assumption); (case ne => (intro h0; have h1 := congrArg List.length h0; simp only [List.length_map, List.length_nil] at h1; omega)); (case z => ((try simp only [List.length_map]); omega)); (case d => ktr_room); (case u => ktr_units); k_whole; intro t9 h9 tk9 F9 N9; (try dsimp only))))
local macro_rules | `(tactic| walk_at "call ref") => `(tactic| (k_here; (with_reducible rename Mine.AllC _ => hAll); (with_reducible show wpAny _ _ (call (Value.ref _) [Value.ref _, Value.int _ _, Value.int _ _]) _ _ _); k_dflt (((refine' Mine.use_reach (Mine.AllC.reach hAll) ?B ?F ?X ?N ?T ?H ?K ?U ?O ?m ?o ?i ?s ?ka ?kb ?z ?d ?u ?_)); (case B => k_asm); (case F => k_asm); (case X => k_asm); (case N => k_asm); (case T => k_asm); (case H => assumption); (case K => exact rfl); (case U => (repeat' (first | exact Mine.TabU.here | exact Mine.TabU.full rfl | apply Mine.TabU.next))); (case O => assumption); (case m => k_mem); (case o => k_all); (case i => assumption); (case s => assumption); (case ka => ((try simp only [Mine.fdiv2]); omega)); (case kb => ((try simp only [Mine.fdiv2]); omega)); (case z => omega); (case d => ktr_room); (case u => ktr_units); k_whole; intro t9 h9 tk9 co9 F9 N9 O9 S9; (try dsimp only at N9); (try dsimp only))))
local macro_rules | `(tactic| walk_at "call ref") => `(tactic| (k_here; (with_reducible rename Mine.AllC _ => hAll); (with_reducible show wpAny _ _ (call (Value.ref _) [Value.ref _]) _ _ _); k_dflt ((show wpAny _ _ (call (Value.ref 57) _) _ _ _); refine wpAny_call ?_; (refine' Mine.enter_try ?k1 ?k2 ?k3 ?k4 ?k5 ?kA ?kF ?kK ?k6 ?k7 ?k8 ?k9 ?kB ?_ ?c2 ?c3 ?c4 ?c5); (case kA => exact rfl); (case kF => exact rfl); (case kK => exact rfl); (case k1 => k_asm); (case k2 => k_asm); (case k3 => k_asm); (case k4 => k_asm); (case k5 => k_asm); (case k6 => k_is); (case k7 => k_is); (case k8 => k_room); (case k9 => exact BindsTo.of_eq rfl); (case kB => exact locs rfl); (case c2 => exact rfl); (case c3 => exact rfl); (case c4 => exact rfl); (case c5 => decide); k_whole; intro g' L' h' FG' F' N' B' X' T' D'; (try dsimp only); (try k_lift B'); (try k_fold))))

-- 8. The theorem
set_option maxHeartbeats 0 in
theorem PySem.Challenge.cw_dn0046_01_holds : PySem.Challenge.rw_dn0046_01.Holds := by
  w_on
  o_law
  k_head
  case hw => w_witness2
  refine Mine.split_walk (C := Mine.AllC) ?_ (fun hAll => ?_)
  · intro w p loose mean mg mb
    refine ⟨?_, ?_, ?_⟩
    · -- median_low
      k_fill
      unfold Mine.MedC
      intro dp un gd cn cs a ccd cl outer A₀ base h₀ L m news s l vs ns nn Q E B F X N T hk hi hne h64 hd hu hret
      refine wpAny_call ?_
      k_dflt cell_enter
      k_steps
      all_goals first
        | (exfalso; exact hne (List.length_eq_zero_iff.mp (by omega)))
        | ((rename News _ _ _ _ => kN); exact cb_retI hret (Mine.med_odd (by assumption) (by assumption) (by assumption)) (by assumption) (fun p hp => kN p (.tail _ hp)))
        | ((rename News _ _ _ _ => kN); exact cb_retI hret (Mine.med_even (by assumption) (by assumption) (by assumption) (by assumption)) (by assumption) (fun p hp => kN p (.tail _ hp)))
    · -- median_high
      k_fill
      unfold Mine.MedC
      intro dp un gd cn cs a ccd cl outer A₀ base h₀ L m news s l vs ns nn Q E B F X N T hk hi hne h64 hd hu hret
      refine wpAny_call ?_
      k_dflt cell_enter
      k_steps
      all_goals first
        | (exfalso; exact hne (List.length_eq_zero_iff.mp (by omega)))
        | ((rename News _ _ _ _ => kN); exact cb_retI hret (Mine.med_high_val (by assumption) (by assumption)) (by assumption) (fun p hp => kN p (.tail _ hp)))
    · -- _law_reach, and bisect_left in it
      k_fill
      unfold Mine.ReachC
      intro dp un gd cn cs a ccd cl outer A₀ base h₀ L m st news s l vs ns nn hs th pt tp Q E B F X N T H hk ok hl59 hoff hi hso h1 hle h64 hd hu hret
      have hl59' := neN hl59
      have hIn : Mine.InReach := Mine.InReach.mk
      have hb0 : Mine.Bis ns hs pt 0 (ns.length - hs) := ⟨by omega, by omega, by omega, fun k hk => by omega, fun k h1 h2 => by omega⟩
      k_with "exec While Compare cons nil" => k_while (fun _ lo hi => Mine.Bis ns hs pt lo hi) (fun _ lo hi => (hi - lo).toNat) "lo" "hi"
      k_with "state" => first | exact hb0 | exact Mine.Bis.up hso h1 (by assumption) (by assumption) (by assumption) | exact Mine.Bis.down hso h1 (by assumption) (by assumption) (by omega)
      k_with "measure" => first | exact Mine.Bis.lessUp (by assumption) (by assumption) | exact Mine.Bis.lessDown (by assumption) (by assumption)
      cases st with
      | none =>
        simp only [Mine.TabL, Mine.tabO, Mine.TabR, List.cons_append, List.nil_append] at N
        refine wpAny_call ?_
        k_dflt (refine' code_defC ?k1 ?k2 ?k3 ?k4 ?k5 ?kA ?kF ?kK ?k6 ?k7 ?k8 ?k9 ?kB ?kD ?_ ?c2 ?c3 ?c4; (case kA => exact rfl); (case kF => exact rfl); (case kK => assumption); (case k1 => k_asm); (case k2 => k_asm); (case k3 => k_asm); (case k4 => k_asm); (case k5 => k_asm); (case k6 => k_is); (case k7 => k_is); (case k8 => ktr_room); (case k9 => exact BindsTo.of_eq rfl); (case kB => exact rfl); (case kD => decide +kernel); (case c2 => exact rfl); (case c3 => exact rfl); (case c4 => exact rfl); k_whole; intro g' L' h' tk' cells' FG' F' N' Y' B' X' T' l1; (try k_lt l1); k_cells Y'; (try simp only [List.cons_append, List.nil_append] at N'); (try dsimp only); (try k_lift B'); (try k_fold))
        k_steps
        all_goals (
          (rename News _ _ _ _ => kN); (rename (Obj.data _ = Data.fields _) => hd1); (rename (_[1]? = some (Value.str _ _)) => hd2); (rename (_ ∧ _ ∧ _ ∧ _ ∧ _ ∧ AllLt _ news) => hl)
          obtain ⟨_, _, _, _, q59, qAll⟩ := hl
          exact Mine.ret_co (_, _) hret (Mine.reach_val hso h1 hle (by assumption) (by assumption)) (by assumption) kN (by k_mem) (by k_mem) (by k_mem) (fun q hq => by repeat (first | exact hq | apply List.Mem.tail)) (Mine.stOk_of hd1 hd2) (.inr ⟨q59, Mine.allLt_mem qAll⟩))
      | some co =>
        obtain ⟨fs, t₀, hod, hfs⟩ := ok co rfl
        obtain ⟨c, o⟩ := co
        simp only [Mine.TabL, Mine.tabO, Mine.TabR, List.cons_append, List.nil_append] at N
        simp only at hod
        refine wpAny_call ?_
        k_dflt (refine' code_defC ?k1 ?k2 ?k3 ?k4 ?k5 ?kA ?kF ?kK ?k6 ?k7 ?k8 ?k9 ?kB ?kD ?_ ?c2 ?c3 ?c4; (case kA => exact rfl); (case kF => exact rfl); (case kK => assumption); (case k1 => k_asm); (case k2 => k_asm); (case k3 => k_asm); (case k4 => k_asm); (case k5 => k_asm); (case k6 => k_is); (case k7 => k_is); (case k8 => ktr_room); (case k9 => exact BindsTo.of_eq rfl); (case kB => exact rfl); (case kD => decide +kernel); (case c2 => exact rfl); (case c3 => exact rfl); (case c4 => exact rfl); k_whole; intro g' L' h' tk' cells' FG' F' N' Y' B' X' T' l1; (try k_lt l1); k_cells Y'; (try simp only [List.cons_append, List.nil_append] at N'); (try dsimp only); (try k_lift B'); (try k_fold))
        k_steps
        all_goals ((rename News _ _ _ _ => kN); exact Mine.ret_co (c, o) hret (Mine.reach_val hso h1 hle (by assumption) (by assumption)) (by assumption) kN (by k_mem) (by k_mem) (by k_mem) (fun q hq => by repeat (first | exact hq | apply List.Mem.tail)) ok (.inl rfl))
  · -- law: up to its outer loop
    k_with_none
    w_strict (k_go0; (all_goals try k_fold); (repeat' ((fail_if_success (with_reducible show wpAny _ _ (pyIter (Value.ref _)) _ _ _)); (first | (k_unfold; (try dsimp only)) | (k_end; wrow_close) | walk1 | (dsimp only; walk1) | (leave1; walk_say "STEP leave1"; try dsimp only)))))
    rename Fr _ _ _ _ => lF
    rename News _ _ _ _ => lN
    rename IsRange _ _ _ _ _ _ _ _ => rg
    have hlen := IntsAre.length (by assumption)
    with_unfolding_all refine' Mine.loop0 [Str.ofString "j", Str.ofString "away", Str.ofString "turned", Str.ofString "low", Str.ofString "high"] (by rfl) rg (by exact small_one (by omega) (by omega) (by omega) (by omega)) (by exact rangeSize_nat _ _) lF lN (by assumption) (fun cell st k t u h tk own hk0 hk1 off ok F N => ?_) (fun cell st u h tk ok F N => ?_)
    · -- a turn of the outer loop, up to the inner one
      clear lF lN rg
      simp only [Mine.Led, Mine.TabL, List.cons_append] at N
      k_fold
      w_strict (repeat' ((fail_if_success (with_reducible show wpAny _ _ (pyIter (Value.ref _)) _ _ _)); (first | (k_unfold; (try dsimp only)) | (k_end; wrow_close) | walk1 | (dsimp only; walk1) | (leave1; walk_say "STEP leave1"; try dsimp only))))
      rename Fr _ _ _ _ => lF
      rename News _ _ _ _ => lN
      rename IsRange _ _ _ _ _ _ _ _ => rg
      with_unfolding_all refine' Mine.loop1 [Str.ofString "away", Str.ofString "turned", Str.ofString "low", Str.ofString "high"] (by rfl) rg (by exact small_one (by omega) (by omega) (by omega) (by omega)) (by exact rangeSize_nat _ _) lF lN ok off ⟨ltN (by omega), ltN (by omega), ltN (by omega)⟩ (fun cell' st' v' k' t' u' h' tk' own' hk0' hk1' off' ok' hv' hst' ofc ofP F' N' => ?_) (fun cell' st' u' h' tk' ok' off' F' N' => ?_)
      · -- a turn of the inner loop: no return of False stands
        clear lF lN rg
        k_fold
        w_strict (repeat' (first | ((with_reducible show wpAny _ _ (execs [Stmt.Return _ _] _) _ _ _); exfalso; (rename (¬ _ = _) => hne); (first | exact hne (Mine.law1 (by assumption) (by omega)) | exact hne (Mine.law2 (by assumption) (by omega)) | exact hne Mine.law3)) | (k_unfold; (try dsimp only)) | (k_end; wrow_close) | walk1 | (dsimp only; walk1) | (leave1; walk_say "STEP leave1"; try dsimp only)))
        rename Fr _ _ _ _ => eF
        rename News _ _ _ _ => eN
        rename (Mine.StOk (some _)) => eO
        exact Mine.turn1 eF eN (List.forall_mem_cons.mpr ⟨by k_mem, List.forall_mem_cons.mpr ⟨by k_mem, List.forall_mem_cons.mpr ⟨by k_mem, List.forall_mem_cons.mpr ⟨by k_mem, List.forall_mem_cons.mpr ⟨by k_mem, fun p hp => by repeat (first | exact hp | apply List.Mem.tail)⟩⟩⟩⟩⟩) off' ok' (by assumption) eO (Mine.comb (by assumption) (by assumption) (fun q hq => .tail _ (.tail _ hq)) (fun q hq => .tail _ (.tail _ hq))) Mine.same1
      · -- behind the inner loop
        clear lF lN rg
        try k_fold
        w_strict (iterate 10 (try (first | (k_unfold; (try dsimp only)) | (k_end; wrow_close) | walk1 | (dsimp only; walk1) | (leave1; walk_say "STEP leave1"; try dsimp only))))
        exact Mine.turn0 F' N' ok' off' Mine.same0
    · -- behind the outer loop: both refuse the empty list
      clear lF lN rg
      cases st with
      | none =>
        simp only [Mine.Led, Mine.TabL, Mine.tabO, Mine.TabR] at N
        try k_fold
        w_strict (repeat' (first | ((with_reducible show wpAny _ _ (execs [] _) _ _ _); exfalso; omega) | (k_unfold; (try dsimp only)) | (k_end; wrow_close) | walk1 | (dsimp only; walk1) | (leave1; walk_say "STEP leave1"; try dsimp only)))
      | some co =>
        simp only [Mine.Led, Mine.TabL, Mine.tabO, Mine.TabR] at N
        try k_fold
        w_strict (repeat' (first | ((with_reducible show wpAny _ _ (execs [] _) _ _ _); exfalso; omega) | (k_unfold; (try dsimp only)) | (k_end; wrow_close) | walk1 | (dsimp only; walk1) | (leave1; walk_say "STEP leave1"; try dsimp only)))
