import PyProof.Rows.All
import Wide.All
import OpenK.AllK
import Wide.FinOn
import PySem.Challenge.RW_oy0026_01
set_option Elab.async false
section
namespace Mine
/-- how many choices out of the list have the sum x -/
noncomputable def cnt : List Int → Int → Nat
  | [], x => if x = 0 then 1 else 0
  | n :: ns, x => cnt ns x + cnt ns (x - n)
noncomputable def dbl (sums : List Int) (n : Int) : List Int := sums ++ sums.map (fun one => n + one)
noncomputable def doubled (ns : List Int) : List Int := ns.foldl dbl [0]
theorem count_map_add (n x : Int) : ∀ l : List Int, (l.map (fun y => n + y)).count x = l.count (x - n)
  | [] => rfl
  | y :: l => by
    rw [List.map_cons, List.count_cons, List.count_cons, count_map_add n x l]
    have : ((n + y == x) = (y == x - n)) := by
      rw [Bool.eq_iff_iff]; simp only [beq_iff_eq]; omega
    rw [this]
theorem count_foldl_dbl (x : Int) : ∀ (ns : List Int) (acc : List Int), (ns.foldl dbl acc).count x = (acc.map (fun y => cnt ns (x - y))).sum
  | [], acc => by
    induction acc with
    | nil => rfl
    | cons y l ih =>
      simp only [List.foldl_nil] at ih ⊢
      rw [List.count_cons, ih, List.map_cons, List.sum_cons, cnt]
      have : ((y == x) = true) = (x - y = 0) := by simp only [beq_iff_eq, eq_iff_iff]; omega
      simp only [this]; omega
  | n :: ns, acc => by
    rw [List.foldl_cons, count_foldl_dbl x ns]
    unfold dbl
    rw [List.map_append, List.sum_append, List.map_map]
    induction acc with
    | nil => rfl
    | cons y l ih =>
      simp only [List.map_cons, List.sum_cons, Function.comp] at ih ⊢
      have e : x - (n + y) = x - y - n := by omega
      rw [cnt, e]; omega
theorem count_doubled (ns : List Int) (x : Int) : (doubled ns).count x = cnt ns x := by
  unfold doubled; rw [count_foldl_dbl]; simp
theorem cnt_perm {l l' : List Int} (h : l.Perm l') : ∀ x, cnt l x = cnt l' x := by
  induction h with
  | nil => intro x; rfl
  | cons a _ ih => intro x; rw [cnt, cnt, ih, ih]
  | swap a b l =>
    intro x
    simp only [cnt]
    have : x - b - a = x - a - b := by omega
    rw [this]; omega
  | trans _ _ i1 i2 => intro x; rw [i1, i2]
theorem cnt_abs : ∀ ns : List Int, ∃ t, ∀ x, cnt (ns.map (fun n => (n.natAbs : Int))) x = cnt ns (x + t)
  | [] => ⟨0, fun x => by simp [cnt]⟩
  | n :: ns => by
    obtain ⟨t, ht⟩ := cnt_abs ns
    by_cases h : 0 ≤ n
    · refine ⟨t, fun x => ?_⟩
      have e : ((n.natAbs : Int)) = n := by omega
      rw [List.map_cons, cnt, cnt, e, ht, ht]
      have : x - n + t = x + t - n := by omega
      rw [this]
    · refine ⟨t + n, fun x => ?_⟩
      have e : ((n.natAbs : Int)) = -n := by omega
      rw [List.map_cons, cnt, cnt, e, ht, ht]
      have e1 : x - -n + t = x + (t + n) := by omega
      have e2 : x + (t + n) - n = x + t := by omega
      rw [e1, e2]; omega
/-- k is how often the sum that comes oftenest comes -/
noncomputable def IsTop (ns : List Int) (k : Int) : Prop := (∃ x, (cnt ns x : Int) = k) ∧ ∀ x, (cnt ns x : Int) ≤ k
theorem IsTop.uniq {ns : List Int} {k k' : Int} (h : IsTop ns k) (h' : IsTop ns k') : k = k' := by
  obtain ⟨x, hx⟩ := h.1
  obtain ⟨y, hy⟩ := h'.1
  have a := h'.2 x
  have b := h.2 y
  omega
theorem IsTop.perm {l l' : List Int} {k : Int} (p : l.Perm l') (h : IsTop l k) : IsTop l' k := by
  obtain ⟨⟨x, hx⟩, hk⟩ := h
  exact ⟨⟨x, by rw [← cnt_perm p]; exact hx⟩, fun y => by rw [← cnt_perm p]; exact hk y⟩
theorem IsTop.abs {ns : List Int} {k : Int} (h : IsTop ns k) : IsTop (ns.map (fun n => (n.natAbs : Int))) k := by
  obtain ⟨⟨x, hx⟩, hk⟩ := h
  obtain ⟨t, ht⟩ := cnt_abs ns
  refine ⟨⟨x - t, ?_⟩, fun y => ?_⟩
  · rw [ht]
    have : x - t + t = x := by omega
    rw [this]; exact hx
  · rw [ht]; exact hk _
/-- the run: the number, how often it came, the most so far -/
noncomputable def runStep (t : Int × Int × Int) (n : Int) : Int × Int × Int :=
  (n, if t.1 = n then t.2.1 + 1 else 1, max t.2.2 (if t.1 = n then t.2.1 + 1 else 1))
structure RunInv (pre : List Int) (t : Int × Int × Int) : Prop where
  le : ∀ y ∈ pre, y ≤ t.1
  isIn : pre = [] ∨ t.1 ∈ pre
  cur : t.2.1 = (pre.count t.1 : Int)
  ex : ∃ x, (pre.count x : Int) = t.2.2
  all : ∀ x, (pre.count x : Int) ≤ t.2.2
theorem RunInv.step {pre : List Int} {t : Int × Int × Int} {n : Int} (h : RunInv pre t) (hn : ∀ y ∈ pre, y ≤ n) : RunInv (pre ++ [n]) (runStep t n) := by
  obtain ⟨t1, t2, t3⟩ := t
  obtain ⟨h1, h2, h3, ⟨x, h4⟩, h5⟩ := h
  simp only at h1 h2 h3 h4 h5
  have cn : ∀ y, ((pre ++ [n]).count y : Int) = (pre.count y : Int) + if n = y then 1 else 0 := by
    intro y
    rw [List.count_append, List.count_singleton]
    by_cases e : n = y <;> simp [e]
  have hc : (if t1 = n then t2 + 1 else 1) = ((pre ++ [n]).count n : Int) := by
    rw [cn]; simp only [if_true]
    by_cases e : t1 = n
    · rw [if_pos e, h3, e]
    · rw [if_neg e]
      have : pre.count n = 0 := by
        rw [List.count_eq_zero]
        intro hm
        rcases h2 with h2 | h2
        · rw [h2] at hm; cases hm
        · exact e (Int.le_antisymm (hn _ h2) (h1 _ hm))
      rw [this]; rfl
  unfold runStep
  simp only
  rw [hc]
  refine ⟨fun y hy => ?_, .inr (by simp), rfl, ?_, fun y => ?_⟩
  · rcases List.mem_append.mp hy with hy | hy
    · exact hn y hy
    · rw [List.mem_singleton.mp hy]; exact Int.le_refl _
  · by_cases e : t3 ≤ ((pre ++ [n]).count n : Int)
    · exact ⟨n, (Int.max_eq_right e).symm⟩
    · refine ⟨x, ?_⟩
      have hx : n ≠ x := by
        intro q; subst q
        rw [cn] at e; simp only [if_true] at e; omega
      show ((pre ++ [n]).count x : Int) = max t3 ((pre ++ [n]).count n : Int)
      rw [cn, if_neg hx, h4, Int.max_eq_left (by omega)]; omega
  · have a := h5 y
    by_cases e : n = y
    · subst e; exact Int.le_max_right _ _
    · have : ((pre ++ [n]).count y : Int) = (pre.count y : Int) := by rw [cn, if_neg e]; omega
      rw [this]; exact Int.le_trans a (Int.le_max_left _ _)
theorem runInv_all : ∀ (l pre : List Int) (t : Int × Int × Int), RunInv pre t → (pre ++ l).Pairwise (· ≤ ·) → RunInv (pre ++ l) (l.foldl runStep t)
  | [], pre, t, h, _ => by simpa using h
  | n :: l, pre, t, h, hp => by
    have e : pre ++ n :: l = (pre ++ [n]) ++ l := by simp
    rw [e] at hp ⊢
    refine runInv_all l (pre ++ [n]) _ (h.step fun y hy => ?_) hp
    exact (List.pairwise_append.mp (List.pairwise_append.mp hp).1).2.2 y hy n (by simp)
noncomputable def runTop (l : List Int) : Int := (l.foldl runStep (l.headD 0, 0, 0)).2.2
theorem runTop_isTop {ns σ : List Int} (hp : σ.Perm (doubled ns)) (hs : σ.Pairwise (· ≤ ·)) : IsTop ns (runTop σ) := by
  have h := runInv_all σ [] (σ.headD 0, 0, 0) ⟨(fun _ h => nomatch h), .inl rfl, rfl, ⟨0, rfl⟩, fun _ => Int.le_refl _⟩ (by simpa using hs)
  simp only [List.nil_append] at h
  have c : ∀ x, σ.count x = cnt ns x := fun x => by rw [hp.count_eq, count_doubled]
  obtain ⟨x, hx⟩ := h.ex
  exact ⟨⟨x, by rw [← c]; exact hx⟩, fun y => by rw [← c]; exact h.all y⟩
end Mine
end
section
set_option maxRecDepth 100000
namespace Mine
noncomputable def coeffs : List (Int × Int × Int × Int × Int) := [(0, 0, 0, 0, 0), (1, 0, 0, 0, 0), (1, 1, 0, 0, 0), (2, 1, 0, 0, 0), (1, 1, 1, 0, 0), (2, 1, 1, 0, 0), (2, 2, 1, 0, 0), (3, 2, 1, 0, 0), (1, 1, 1, 1, 0), (2, 1, 1, 1, 0), (2, 2, 1, 1, 0), (3, 2, 1, 1, 0), (2, 2, 2, 1, 0), (3, 2, 2, 1, 0), (3, 3, 2, 1, 0), (4, 3, 2, 1, 0), (1, 1, 1, 1, 1), (2, 1, 1, 1, 1), (2, 2, 1, 1, 1), (3, 2, 1, 1, 1), (2, 2, 2, 1, 1), (3, 2, 2, 1, 1), (3, 3, 2, 1, 1), (4, 3, 2, 1, 1), (2, 2, 2, 2, 1), (3, 2, 2, 2, 1), (3, 3, 2, 2, 1), (4, 3, 2, 2, 1), (3, 3, 3, 2, 1), (4, 3, 3, 2, 1), (4, 4, 3, 2, 1), (5, 4, 3, 2, 1)]
/-- for each pattern of positive gaps a cover of the 32 choices by chains -/
noncomputable def covers : List (List (List Nat)) := [
  [[0], [1], [2], [3], [4], [5], [6], [7], [8], [9], [10], [11], [12], [13], [14], [15], [16], [17], [18], [19], [20], [21], [22], [23], [24], [25], [26], [27], [28], [29], [30], [31]],
  [[0, 1, 6, 21], [2, 10, 25], [4, 3, 13, 27], [8, 9, 26], [12, 22], [16, 5, 28], [17, 19, 15, 31], [18, 14, 23], [20, 11, 29], [24, 7, 30]],
  [[0, 3, 7, 28], [1, 2, 19, 14, 31], [4, 6, 29], [5, 18, 15, 30], [8, 13, 22], [9, 12, 23], [16, 11, 26], [17, 10, 27], [20], [21], [24], [25]],
  [[0, 1, 2, 6, 25, 14, 29], [4, 5, 20, 7, 27], [8, 3, 10, 21, 22, 15, 31], [16, 9, 12, 19, 23, 30], [17, 18, 13, 28], [24, 11, 26]],
  [[0, 7, 24], [1, 6, 25], [2, 5, 26], [3, 4, 27], [8, 23], [9, 22], [10, 21], [11, 20], [16, 15, 28], [17, 14, 29], [18, 13, 30], [19, 12, 31]],
  [[0, 1, 4, 10, 24, 13, 29], [2, 3, 9, 7, 26], [8, 5, 20, 21, 27], [16, 6, 11, 14, 28], [17, 19, 22, 23, 30], [18, 12, 25, 15, 31]],
  [[0, 3, 4, 19, 21, 22, 29], [1, 2, 5, 18, 20, 23, 28], [8, 11, 12, 27], [9, 10, 24, 15, 30], [16, 7, 13, 26], [17, 6, 25, 14, 31]],
  [[0, 1, 2, 3, 10, 12, 22, 27], [4, 9, 18, 19, 21, 28], [8, 5, 7, 25, 14, 29], [16, 6, 20, 13, 26], [17, 11, 23, 30], [24, 15, 31]],
  [[0, 15, 24], [1, 14, 25], [2, 13, 26], [3, 12, 27], [4, 11, 28], [5, 10, 29], [6, 9, 30], [7, 8, 31], [16], [17], [18], [19], [20], [21], [22], [23]],
  [[0, 1, 6, 9, 11, 28], [2, 5, 7, 19, 27], [4, 3, 10, 24, 25], [8, 12, 22, 26], [16, 17, 13, 23, 29], [18, 21, 15, 31], [20, 14, 30]],
  [[0, 3, 8, 10, 29], [1, 2, 9, 18, 25], [4, 7, 11, 15, 30], [5, 6, 19, 24], [16, 13, 28], [17, 12, 14, 31], [20, 23, 26], [21, 22, 27]],
  [[0, 1, 2, 5, 6, 18, 21, 25, 28], [4, 3, 7, 11, 14, 15, 31], [8, 9, 20, 19, 22, 23, 30], [16, 12, 13, 29], [17, 10, 24, 26, 27]],
  [[0, 7, 8, 23, 24], [1, 6, 9, 22, 25], [2, 5, 10, 21, 26], [3, 4, 11, 20, 27], [16, 15, 28], [17, 14, 29], [18, 13, 30], [19, 12, 31]],
  [[0, 1, 4, 5, 10, 19, 14, 26, 27], [2, 3, 6, 7, 11, 13, 23, 30], [8, 9, 21, 25, 28], [16, 17, 20, 24, 29], [18, 12, 22, 15, 31]],
  [[0, 3, 4, 7, 10, 22, 29], [1, 2, 5, 6, 18, 12, 25, 26], [8, 21, 14, 31], [9, 19, 20, 15, 30], [16, 13, 24, 27], [17, 11, 23, 28]],
  [[0, 1, 2, 3, 6, 7, 19, 13, 22, 23, 30], [4, 5, 9, 10, 20, 24, 26, 27, 29], [8, 18, 11, 21, 25, 28], [16, 17, 12, 14, 15, 31]],
  [[0, 31], [1, 30], [2, 29], [3, 28], [4, 27], [5, 26], [6, 25], [7, 24], [8, 23], [9, 22], [10, 21], [11, 20], [12, 19], [13, 18], [14, 17], [15, 16]],
  [[0, 1, 3, 17, 21, 27], [2, 9, 11, 19, 29], [4, 6, 13, 25], [8, 5, 20, 22, 23, 31], [10, 7, 15, 30], [12, 14, 28], [16, 18, 26], [24]],
  [[0, 3, 12, 18, 27], [1, 2, 13, 24], [4, 11, 19, 26], [5, 10, 14, 29], [8, 7, 15, 28], [9, 6, 25], [16, 21, 22, 31], [17, 20, 23, 30]],
  [[0, 1, 2, 9, 10, 11, 14, 26], [4, 5, 12, 7, 23, 31], [8, 3, 6, 13, 15, 30], [16, 17, 18, 25, 22, 29], [20, 19, 27], [24, 21, 28]],
  [[0, 7, 16, 23, 28], [1, 6, 17, 22, 29], [2, 5, 18, 21, 30], [3, 4, 19, 20, 31], [8, 15, 24], [9, 14, 25], [10, 13, 26], [11, 12, 27]],
  [[0, 1, 4, 9, 17, 19, 25, 27], [2, 3, 5, 11, 13, 26, 23, 31], [8, 6, 7, 14, 15, 29], [10, 12, 20, 21, 28], [16, 18, 24, 22, 30]],
  [[0, 3, 4, 11, 13, 14, 29], [1, 2, 5, 10, 12, 25, 22, 31], [8, 7, 15, 28], [9, 6, 18, 20, 27], [16, 21, 26], [17, 19, 24, 23, 30]],
  [[0, 1, 2, 3, 9, 10, 7, 13, 14, 15, 30], [4, 6, 12, 20, 25, 26, 27, 29], [8, 5, 11, 19, 21, 28], [16, 17, 18, 24, 22, 23, 31]],
  [[0, 15, 16, 31], [1, 14, 17, 30], [2, 13, 18, 29], [3, 12, 19, 28], [4, 11, 20, 27], [5, 10, 21, 26], [6, 9, 22, 25], [7, 8, 23, 24]],
  [[0, 1, 6, 12, 17, 24, 26], [2, 5, 9, 13, 15, 31], [4, 3, 7, 14, 22, 25, 27], [8, 10, 11, 28], [16, 18, 19, 29], [20, 21, 23, 30]],
  [[0, 3, 8, 11, 15, 22, 29], [1, 2, 9, 10, 21, 25, 26], [4, 7, 12, 14, 31], [5, 6, 13, 20, 30], [16, 19, 23, 28], [17, 18, 24, 27]],
  [[0, 1, 2, 5, 6, 10, 18, 21, 29], [4, 3, 7, 13, 14, 15, 23, 31], [8, 9, 12, 11, 19, 22, 26, 27, 30], [16, 17, 20, 24, 25, 28]],
  [[0, 7, 8, 15, 23, 24], [1, 6, 9, 14, 29], [2, 5, 10, 13, 30], [3, 4, 11, 12, 31], [16, 22, 25], [17, 21, 26], [18, 20, 27], [19, 28]],
  [[0, 1, 4, 5, 7, 11, 14, 22, 26, 28], [2, 3, 6, 10, 12, 13, 15, 23, 31], [8, 9, 17, 20, 24, 27, 29], [16, 18, 19, 21, 25, 30]],
  [[0, 3, 4, 7, 10, 12, 15, 23, 27, 28], [1, 2, 5, 6, 11, 13, 14, 22, 31], [8, 16, 18, 20, 24, 26, 29], [9, 17, 19, 21, 25, 30]],
  [[0, 1, 2, 3, 5, 6, 7, 11, 19, 21, 22, 26, 27, 30], [4, 8, 9, 10, 12, 13, 14, 15, 23, 31], [16, 17, 18, 20, 24, 25, 28, 29]]]
noncomputable def lin (d0 d1 d2 d3 d4 : Int) (v : Int × Int × Int × Int × Int) : Int := d0 * v.1 + d1 * v.2.1 + d2 * v.2.2.1 + d3 * v.2.2.2.1 + d4 * v.2.2.2.2
noncomputable def vadd (u v : Int × Int × Int × Int × Int) : Int × Int × Int × Int × Int := (u.1 + v.1, u.2.1 + v.2.1, u.2.2.1 + v.2.2.1, u.2.2.2.1 + v.2.2.2.1, u.2.2.2.2 + v.2.2.2.2)
theorem lin_vadd (d0 d1 d2 d3 d4 : Int) (u v : Int × Int × Int × Int × Int) : lin d0 d1 d2 d3 d4 (vadd u v) = lin d0 d1 d2 d3 d4 u + lin d0 d1 d2 d3 d4 v := by
  simp only [lin, vadd, Int.mul_add]
  omega
noncomputable def vdbl (s : List (Int × Int × Int × Int × Int)) (u : Int × Int × Int × Int × Int) : List (Int × Int × Int × Int × Int) := s ++ s.map (vadd u)
theorem dbl_lin (d0 d1 d2 d3 d4 : Int) (s : List (Int × Int × Int × Int × Int)) (u : Int × Int × Int × Int × Int) : dbl (s.map (lin d0 d1 d2 d3 d4)) (lin d0 d1 d2 d3 d4 u) = (vdbl s u).map (lin d0 d1 d2 d3 d4) := by
  unfold dbl vdbl
  rw [List.map_append, List.map_map, List.map_map]
  have : ((fun one => lin d0 d1 d2 d3 d4 u + one) ∘ lin d0 d1 d2 d3 d4) = (lin d0 d1 d2 d3 d4 ∘ vadd u) := funext fun v => (lin_vadd d0 d1 d2 d3 d4 u v).symm
  rw [this]
theorem fold_lin (d0 d1 d2 d3 d4 : Int) : ∀ (us s : List (Int × Int × Int × Int × Int)), (us.map (lin d0 d1 d2 d3 d4)).foldl dbl (s.map (lin d0 d1 d2 d3 d4)) = (us.foldl vdbl s).map (lin d0 d1 d2 d3 d4)
  | [], _ => rfl
  | u :: us, s => by
    rw [List.map_cons, List.foldl_cons, List.foldl_cons, dbl_lin]
    exact fold_lin d0 d1 d2 d3 d4 us (vdbl s u)
theorem doubled_lin (d0 d1 d2 d3 d4 : Int) : doubled [d0, d0 + d1, d0 + d1 + d2, d0 + d1 + d2 + d3, d0 + d1 + d2 + d3 + d4] = coeffs.map (lin d0 d1 d2 d3 d4) := by
  have e : [d0, d0 + d1, d0 + d1 + d2, d0 + d1 + d2 + d3, d0 + d1 + d2 + d3 + d4] = ([(1, 0, 0, 0, 0), (1, 1, 0, 0, 0), (1, 1, 1, 0, 0), (1, 1, 1, 1, 0), (1, 1, 1, 1, 1)] : List (Int × Int × Int × Int × Int)).map (lin d0 d1 d2 d3 d4) := by
    simp only [List.map_cons, List.map_nil, lin, Int.mul_one, Int.mul_zero, Int.add_zero]
  have z : ([0] : List Int) = ([(0, 0, 0, 0, 0)] : List (Int × Int × Int × Int × Int)).map (lin d0 d1 d2 d3 d4) := by
    simp only [List.map_cons, List.map_nil, lin, Int.mul_zero, Int.add_zero]
  have c : ([(1, 0, 0, 0, 0), (1, 1, 0, 0, 0), (1, 1, 1, 0, 0), (1, 1, 1, 1, 0), (1, 1, 1, 1, 1)] : List (Int × Int × Int × Int × Int)).foldl vdbl [(0, 0, 0, 0, 0)] = coeffs := by decide +kernel
  rw [doubled, e, z, fold_lin, c]
/-- one step of a chain: no gap that is positive counts less, and one counts more -/
noncomputable def okPair (p : List Bool) (u v : Int × Int × Int × Int × Int) : Bool :=
  let q (j : Nat) (a b : Int) : Bool := !(p.getD j false) || decide (a ≤ b)
  let r (j : Nat) (a b : Int) : Bool := p.getD j false && decide (a < b)
  q 0 u.1 v.1 && q 1 u.2.1 v.2.1 && q 2 u.2.2.1 v.2.2.1 && q 3 u.2.2.2.1 v.2.2.2.1 && q 4 u.2.2.2.2 v.2.2.2.2 &&
  (r 0 u.1 v.1 || r 1 u.2.1 v.2.1 || r 2 u.2.2.1 v.2.2.1 || r 3 u.2.2.2.1 v.2.2.2.1 || r 4 u.2.2.2.2 v.2.2.2.2)
/-- the gap j as the pattern tells it -/
noncomputable def gapOk (p : List Bool) (j : Nat) (d : Int) : Prop := (p.getD j false = true → 0 < d) ∧ (p.getD j false = false → d = 0)
theorem gap_le {p : List Bool} {j : Nat} {d a b : Int} (g : gapOk p j d) (h : (!(p.getD j false) || decide (a ≤ b)) = true) : d * a ≤ d * b := by
  cases e : p.getD j false with
  | false => rw [g.2 e]; omega
  | true =>
    rw [e] at h; simp at h
    exact Int.mul_le_mul_of_nonneg_left h (Int.le_of_lt (g.1 e))
theorem gap_lt {p : List Bool} {j : Nat} {d a b : Int} (g : gapOk p j d) (h : (p.getD j false && decide (a < b)) = true) : d * a < d * b := by
  rw [Bool.and_eq_true] at h
  exact Int.mul_lt_mul_of_pos_left (of_decide_eq_true h.2) (g.1 h.1)
theorem lin_lt {p : List Bool} {d0 d1 d2 d3 d4 : Int} (g0 : gapOk p 0 d0) (g1 : gapOk p 1 d1) (g2 : gapOk p 2 d2) (g3 : gapOk p 3 d3) (g4 : gapOk p 4 d4) {u v : Int × Int × Int × Int × Int} (h : okPair p u v = true) :
    lin d0 d1 d2 d3 d4 u < lin d0 d1 d2 d3 d4 v := by
  obtain ⟨u0, u1, u2, u3, u4⟩ := u
  obtain ⟨v0, v1, v2, v3, v4⟩ := v
  simp only [okPair] at h
  rw [Bool.and_eq_true] at h
  obtain ⟨h, hr⟩ := h
  rw [Bool.and_eq_true, Bool.and_eq_true, Bool.and_eq_true, Bool.and_eq_true] at h
  obtain ⟨⟨⟨⟨h0, h1⟩, h2⟩, h3⟩, h4⟩ := h
  have a0 := gap_le (a := u0) (b := v0) g0 h0
  have a1 := gap_le (a := u1) (b := v1) g1 h1
  have a2 := gap_le (a := u2) (b := v2) g2 h2
  have a3 := gap_le (a := u3) (b := v3) g3 h3
  have a4 := gap_le (a := u4) (b := v4) g4 h4
  rw [Bool.or_eq_true, Bool.or_eq_true, Bool.or_eq_true, Bool.or_eq_true] at hr
  show d0 * u0 + d1 * u1 + d2 * u2 + d3 * u3 + d4 * u4 < d0 * v0 + d1 * v1 + d2 * v2 + d3 * v3 + d4 * v4
  rcases hr with (((hr | hr) | hr) | hr) | hr
  · exact Int.add_lt_add_of_lt_of_le (Int.add_lt_add_of_lt_of_le (Int.add_lt_add_of_lt_of_le (Int.add_lt_add_of_lt_of_le (gap_lt g0 hr) a1) a2) a3) a4
  · exact Int.add_lt_add_of_lt_of_le (Int.add_lt_add_of_lt_of_le (Int.add_lt_add_of_lt_of_le (Int.add_lt_add_of_le_of_lt a0 (gap_lt g1 hr)) a2) a3) a4
  · exact Int.add_lt_add_of_lt_of_le (Int.add_lt_add_of_lt_of_le (Int.add_lt_add_of_le_of_lt (Int.add_le_add a0 a1) (gap_lt g2 hr)) a3) a4
  · exact Int.add_lt_add_of_lt_of_le (Int.add_lt_add_of_le_of_lt (Int.add_le_add (Int.add_le_add a0 a1) a2) (gap_lt g3 hr)) a4
  · exact Int.add_lt_add_of_le_of_lt (Int.add_le_add (Int.add_le_add (Int.add_le_add a0 a1) a2) a3) (gap_lt g4 hr)
noncomputable def co (m : Nat) : Int × Int × Int × Int × Int := coeffs.getD m (0, 0, 0, 0, 0)
theorem coeffs_co : coeffs = (List.range 32).map co := by decide +kernel
noncomputable def incChain (p : List Bool) : List Nat → Bool
  | [] => true
  | [_] => true
  | a :: b :: r => okPair p (co a) (co b) && incChain p (b :: r)
noncomputable def coverOk (p : List Bool) (chs : List (List Nat)) (n : Nat) : Bool := chs.flatten.isPerm (List.range 32) && chs.all (incChain p) && decide (chs.length ≤ n)
section
variable {p : List Bool} {d0 d1 d2 d3 d4 : Int} (g0 : gapOk p 0 d0) (g1 : gapOk p 1 d1) (g2 : gapOk p 2 d2) (g3 : gapOk p 3 d3) (g4 : gapOk p 4 d4)
include g0 g1 g2 g3 g4
theorem chain_gt : ∀ (l : List Nat) (a : Nat), incChain p (a :: l) = true → ∀ b ∈ l, lin d0 d1 d2 d3 d4 (co a) < lin d0 d1 d2 d3 d4 (co b)
  | [], _, _, _, hb => nomatch hb
  | c :: l, a, h, b, hb => by
    unfold incChain at h
    rw [Bool.and_eq_true] at h
    have h1 := lin_lt g0 g1 g2 g3 g4 h.1
    rcases List.mem_cons.mp hb with rfl | hb
    · exact h1
    · exact Int.lt_trans h1 (chain_gt l c h.2 b hb)
theorem chain_one (x : Int) : ∀ l : List Nat, incChain p l = true → l.countP (fun m => lin d0 d1 d2 d3 d4 (co m) == x) ≤ 1
  | [], _ => by simp
  | a :: l, h => by
    have ht : incChain p l = true := by
      cases l with
      | nil => rfl
      | cons b r => unfold incChain at h; rw [Bool.and_eq_true] at h; exact h.2
    have ih := chain_one x l ht
    rw [List.countP_cons]
    by_cases e : lin d0 d1 d2 d3 d4 (co a) = x
    · have z : l.countP (fun m => lin d0 d1 d2 d3 d4 (co m) == x) = 0 := by
        rw [List.countP_eq_zero]
        intro b hb q
        have := chain_gt g0 g1 g2 g3 g4 l a h b hb
        rw [beq_iff_eq] at q
        omega
      rw [z]; simp only [e, beq_self_eq_true, if_true]; omega
    · simp [e]; exact ih
theorem cover_le {chs : List (List Nat)} {n : Nat} (h : coverOk p chs n = true) (x : Int) :
    cnt [d0, d0 + d1, d0 + d1 + d2, d0 + d1 + d2 + d3, d0 + d1 + d2 + d3 + d4] x ≤ n := by
  unfold coverOk at h
  rw [Bool.and_eq_true, Bool.and_eq_true, List.isPerm_iff, List.all_eq_true, decide_eq_true_eq] at h
  obtain ⟨⟨h1, h2⟩, h3⟩ := h
  rw [← count_doubled, doubled_lin, coeffs_co, List.map_map, List.count, List.countP_map]
  refine Nat.le_trans (Nat.le_of_eq (h1.countP_eq _).symm) (Nat.le_trans ?_ h3)
  clear h1 h3
  induction chs with
  | nil => simp
  | cons c r ih =>
    rw [List.flatten_cons, List.countP_append, List.length_cons]
    have a := chain_one g0 g1 g2 g3 g4 x c (h2 c (.head _))
    have b := ih fun y hy => h2 y (.tail _ hy)
    have : List.countP ((fun x_1 => x_1 == x) ∘ lin d0 d1 d2 d3 d4 ∘ co) c = List.countP (fun m => lin d0 d1 d2 d3 d4 (co m) == x) c := rfl
    rw [this]; omega
end
end Mine
end
section
set_option maxRecDepth 100000
namespace Mine
noncomputable def ind (p : Prop) [Decidable p] : Nat := if p then 1 else 0
theorem ind_congr {p q : Prop} [Decidable p] [Decidable q] (h : p ↔ q) : ind p = ind q := by
  unfold ind; by_cases hp : p
  · rw [if_pos hp, if_pos (h.mp hp)]
  · rw [if_neg hp, if_neg fun hq => hp (h.mpr hq)]
theorem ind_no {p : Prop} [Decidable p] (h : ¬ p) : ind p = 0 := if_neg h
noncomputable def tn2 (a b : Int) : Nat := 1 + ind (a = b)
noncomputable def tn3 (a b c : Int) : Nat := 1 + ind (a = c) + ind (b = c)
noncomputable def tn4 (a b c d : Int) : Nat := 1 + ind (a = d) + ind (b = d) + ind (c = d)
noncomputable def tn5 (a b c d e : Int) : Nat := 1 + ind (a = e) + ind (b = e) + ind (c = e) + ind (d = e)
/-- one place counts: a size above nought, not above v, with the turn t -/
noncomputable def hit (z v : Int) (t' t : Nat) : Nat := ind (0 < z ∧ z ≤ v ∧ t' = t)
noncomputable def be (a b c d e v : Int) (t : Nat) : Nat := hit a v 1 t + hit b v (tn2 a b) t + hit c v (tn3 a b c) t + hit d v (tn4 a b c d) t + hit e v (tn5 a b c d e) t
noncomputable def nought (z : Int) (n : Nat) : Int := if z = 0 then 0 else n
noncomputable def sm (a b c d e : Int) : List Int :=
  [nought a (be a b c d e a 1), nought b (be a b c d e b (tn2 a b)), nought c (be a b c d e c (tn3 a b c)), nought d (be a b c d e d (tn4 a b c d)), nought e (be a b c d e e (tn5 a b c d e))]
theorem eq_ind (a b : Int) : ind (a = b) = ind (b = a) := ind_congr ⟨Eq.symm, Eq.symm⟩
theorem ac1 (x y z : Nat) : x + y + z = x + z + y := Nat.add_right_comm x y z
theorem ac2 (x y z w : Nat) : x + y + z + w = x + z + y + w := congrArg (· + w) (ac1 x y z)
theorem ac3 (x y z w v : Nat) : x + y + z + w + v = x + z + y + w + v := congrArg (· + v) (ac2 x y z w)
theorem sm_swap0 (a b c d e : Int) : (sm b a c d e).Perm (sm a b c d e) := by
  by_cases h : a = b
  · subst h; exact List.Perm.refl _
  · have h1 : tn2 a b = 1 := by unfold tn2; rw [ind_no h]
    have h2 : tn2 b a = 1 := by unfold tn2; rw [ind_no (Ne.symm h)]
    have h3 : tn3 b a c = tn3 a b c := ac1 _ _ _
    have h4 : tn4 b a c d = tn4 a b c d := ac2 _ _ _ _
    have h5 : tn5 b a c d e = tn5 a b c d e := ac3 _ _ _ _ _
    have hb : ∀ v t, be b a c d e v t = be a b c d e v t := fun v t => by
      unfold be; rw [h1, h2, h3, h4, h5, Nat.add_comm (hit b v 1 t) (hit a v 1 t)]
    unfold sm
    rw [h1, h2, h3, h4, h5]
    simp only [hb]
    exact List.Perm.swap _ _ _
theorem sm_swap1 (a b c d e : Int) : (sm a c b d e).Perm (sm a b c d e) := by
  by_cases h : b = c
  · subst h; exact List.Perm.refl _
  · have h1 : tn3 a b c = tn2 a c := by unfold tn3 tn2; rw [ind_no h]; rfl
    have h2 : tn3 a c b = tn2 a b := by unfold tn3 tn2; rw [ind_no (Ne.symm h)]; rfl
    have h4 : tn4 a c b d = tn4 a b c d := ac1 _ _ _
    have h5 : tn5 a c b d e = tn5 a b c d e := congrArg (· + ind (d = e)) (ac1 _ _ _)
    have hb : ∀ v t, be a c b d e v t = be a b c d e v t := fun v t => by
      unfold be; rw [h1, h2, h4, h5, ac1 (hit a v 1 t)]
    unfold sm
    rw [h1, h2, h4, h5]
    simp only [hb]
    exact (List.Perm.swap _ _ _).cons _
theorem sm_swap2 (a b c d e : Int) : (sm a b d c e).Perm (sm a b c d e) := by
  by_cases h : c = d
  · subst h; exact List.Perm.refl _
  · have h1 : tn4 a b c d = tn3 a b d := by unfold tn4 tn3; rw [ind_no h]; rfl
    have h2 : tn4 a b d c = tn3 a b c := by unfold tn4 tn3; rw [ind_no (Ne.symm h)]; rfl
    have h5 : tn5 a b d c e = tn5 a b c d e := ac1 _ _ _
    have hb : ∀ v t, be a b d c e v t = be a b c d e v t := fun v t => by
      unfold be; rw [h1, h2, h5, ac1 (hit a v 1 t + hit b v (tn2 a b) t)]
    unfold sm
    rw [h1, h2, h5]
    simp only [hb]
    exact ((List.Perm.swap _ _ _).cons _).cons _
theorem sm_swap3 (a b c d e : Int) : (sm a b c e d).Perm (sm a b c d e) := by
  by_cases h : d = e
  · subst h; exact List.Perm.refl _
  · have h1 : tn5 a b c d e = tn4 a b c e := by unfold tn5 tn4; rw [ind_no h]; rfl
    have h2 : tn5 a b c e d = tn4 a b c d := by unfold tn5 tn4; rw [ind_no (Ne.symm h)]; rfl
    have hb : ∀ v t, be a b c e d v t = be a b c d e v t := fun v t => by
      unfold be; rw [h1, h2, ac1 (hit a v 1 t + hit b v (tn2 a b) t + hit c v (tn3 a b c) t)]
    unfold sm
    rw [h1, h2]
    simp only [hb]
    exact (((List.Perm.swap _ _ _).cons _).cons _).cons _
/-- a claim about five numbers that no exchange of neighbours touches holds of all if it holds of those in order -/
theorem sort5 {P : Int → Int → Int → Int → Int → Prop} (s0 : ∀ a b c d e, P b a c d e → P a b c d e) (s1 : ∀ a b c d e, P a c b d e → P a b c d e)
    (s2 : ∀ a b c d e, P a b d c e → P a b c d e) (s3 : ∀ a b c d e, P a b c e d → P a b c d e)
    (hs : ∀ a b c d e, a ≤ b → b ≤ c → c ≤ d → d ≤ e → P a b c d e) : ∀ a b c d e, P a b c d e := by
  have lt : ∀ {x y : Int}, ¬ x ≤ y → y ≤ x := fun q => Int.le_of_lt (Int.not_le.mp q)
  have h4 : ∀ a b c d e, b ≤ c → c ≤ d → d ≤ e → P a b c d e := by
    intro a b c d e h1 h2 h3
    by_cases q1 : a ≤ b
    · exact hs _ _ _ _ _ q1 h1 h2 h3
    · refine s0 _ _ _ _ _ ?_
      by_cases q2 : a ≤ c
      · exact hs _ _ _ _ _ (lt q1) q2 h2 h3
      · refine s1 _ _ _ _ _ ?_
        by_cases q3 : a ≤ d
        · exact hs _ _ _ _ _ h1 (lt q2) q3 h3
        · refine s2 _ _ _ _ _ ?_
          by_cases q4 : a ≤ e
          · exact hs _ _ _ _ _ h1 h2 (lt q3) q4
          · exact s3 _ _ _ _ _ (hs _ _ _ _ _ h1 h2 h3 (lt q4))
  have h3 : ∀ a b c d e, c ≤ d → d ≤ e → P a b c d e := by
    intro a b c d e h1 h2
    by_cases q1 : b ≤ c
    · exact h4 _ _ _ _ _ q1 h1 h2
    · refine s1 _ _ _ _ _ ?_
      by_cases q2 : b ≤ d
      · exact h4 _ _ _ _ _ (lt q1) q2 h2
      · refine s2 _ _ _ _ _ ?_
        by_cases q3 : b ≤ e
        · exact h4 _ _ _ _ _ h1 (lt q2) q3
        · exact s3 _ _ _ _ _ (h4 _ _ _ _ _ h1 h2 (lt q3))
  have h2 : ∀ a b c d e, d ≤ e → P a b c d e := by
    intro a b c d e h1
    by_cases q1 : c ≤ d
    · exact h3 _ _ _ _ _ q1 h1
    · refine s2 _ _ _ _ _ ?_
      by_cases q2 : c ≤ e
      · exact h3 _ _ _ _ _ (lt q1) q2
      · exact s3 _ _ _ _ _ (h3 _ _ _ _ _ h1 (lt q2))
  intro a b c d e
  by_cases q1 : d ≤ e
  · exact h2 _ _ _ _ _ q1
  · exact s3 _ _ _ _ _ (h2 _ _ _ _ _ (lt q1))
theorem isTop_of (l : List Int) (n : Nat) (h : ((doubled l).any (fun x => (doubled l).count x == n) && (doubled l).all (fun x => decide ((doubled l).count x ≤ n))) = true) : IsTop l n := by
  rw [Bool.and_eq_true, List.any_eq_true, List.all_eq_true] at h
  obtain ⟨⟨x, _, hx⟩, ha⟩ := h
  refine ⟨⟨x, ?_⟩, fun y => ?_⟩
  · rw [← count_doubled, beq_iff_eq.mp hx]
  · rw [← count_doubled]
    by_cases hy : y ∈ doubled l
    · exact Int.ofNat_le.mpr (of_decide_eq_true (ha y hy))
    · rw [List.count_eq_zero.mpr hy]; omega
theorem cnt_scale (v : Int) (hv : v ≠ 0) : ∀ (l : List Int) (x : Int), cnt (l.map (v * ·)) (v * x) = cnt l x
  | [], x => by
    simp only [List.map_nil, cnt]
    have : (v * x = 0) = (x = 0) := by rw [eq_iff_iff, Int.mul_eq_zero]; simp [hv]
    simp only [this]
  | n :: l, x => by
    simp only [List.map_cons, cnt]
    rw [cnt_scale v hv l x, ← Int.mul_sub, cnt_scale v hv l (x - n)]
theorem eq_of_le {a b a' b' : Int} (h : a ≤ b ↔ a' ≤ b') (k : b ≤ a ↔ b' ≤ a') : a = b ↔ a' = b' := by
  constructor
  · intro q; exact Int.le_antisymm (h.mp (by omega)) (k.mp (by omega))
  · intro q; exact Int.le_antisymm (h.mpr (by omega)) (k.mpr (by omega))
theorem le_self (a a' : Int) : a ≤ a ↔ a' ≤ a' := ⟨fun _ => Int.le_refl _, fun _ => Int.le_refl _⟩
theorem sm_congr {a b c d e a' b' c' d' e' : Int}
    (pa : 0 < a ↔ 0 < a') (pb : 0 < b ↔ 0 < b') (pc : 0 < c ↔ 0 < c') (pd : 0 < d ↔ 0 < d') (pe : 0 < e ↔ 0 < e')
    (za : a = 0 ↔ a' = 0) (zb : b = 0 ↔ b' = 0) (zc : c = 0 ↔ c' = 0) (zd : d = 0 ↔ d' = 0) (ze : e = 0 ↔ e' = 0)
    (ab : a ≤ b ↔ a' ≤ b') (ac : a ≤ c ↔ a' ≤ c') (ad : a ≤ d ↔ a' ≤ d') (ae : a ≤ e ↔ a' ≤ e')
    (ba : b ≤ a ↔ b' ≤ a') (bc : b ≤ c ↔ b' ≤ c') (bd : b ≤ d ↔ b' ≤ d') (be' : b ≤ e ↔ b' ≤ e')
    (ca : c ≤ a ↔ c' ≤ a') (cb : c ≤ b ↔ c' ≤ b') (cd : c ≤ d ↔ c' ≤ d') (ce : c ≤ e ↔ c' ≤ e')
    (da : d ≤ a ↔ d' ≤ a') (db : d ≤ b ↔ d' ≤ b') (dc : d ≤ c ↔ d' ≤ c') (de : d ≤ e ↔ d' ≤ e')
    (ea : e ≤ a ↔ e' ≤ a') (eb : e ≤ b ↔ e' ≤ b') (ec : e ≤ c ↔ e' ≤ c') (ed : e ≤ d ↔ e' ≤ d') : sm a b c d e = sm a' b' c' d' e' := by
  have e1 : ind (a = b) = ind (a' = b') := ind_congr (eq_of_le ab ba)
  have e2 : ind (a = c) = ind (a' = c') := ind_congr (eq_of_le ac ca)
  have e3 : ind (a = d) = ind (a' = d') := ind_congr (eq_of_le ad da)
  have e4 : ind (a = e) = ind (a' = e') := ind_congr (eq_of_le ae ea)
  have e5 : ind (b = c) = ind (b' = c') := ind_congr (eq_of_le bc cb)
  have e6 : ind (b = d) = ind (b' = d') := ind_congr (eq_of_le bd db)
  have e7 : ind (b = e) = ind (b' = e') := ind_congr (eq_of_le be' eb)
  have e8 : ind (c = d) = ind (c' = d') := ind_congr (eq_of_le cd dc)
  have e9 : ind (c = e) = ind (c' = e') := ind_congr (eq_of_le ce ec)
  have e10 : ind (d = e) = ind (d' = e') := ind_congr (eq_of_le de ed)
  have t2 : tn2 a b = tn2 a' b' := by unfold tn2; rw [e1]
  have t3 : tn3 a b c = tn3 a' b' c' := by unfold tn3; rw [e2, e5]
  have t4 : tn4 a b c d = tn4 a' b' c' d' := by unfold tn4; rw [e3, e6, e8]
  have t5 : tn5 a b c d e = tn5 a' b' c' d' e' := by unfold tn5; rw [e4, e7, e9, e10]
  have hh : ∀ {z v z' v' : Int} {s t : Nat}, (0 < z ↔ 0 < z') → (z ≤ v ↔ z' ≤ v') → hit z v s t = hit z' v' s t := fun h1 h2 => ind_congr (by rw [h1, h2])
  have nn : ∀ {z z' : Int} {n n' : Nat}, (z = 0 ↔ z' = 0) → n = n' → nought z n = nought z' n' := fun {z z' n n'} h1 h2 => by
    unfold nought; subst h2
    by_cases q : z = 0
    · rw [if_pos q, if_pos (h1.mp q)]
    · rw [if_neg q, if_neg fun r => q (h1.mpr r)]
  unfold sm
  rw [t2, t3, t4, t5]
  have f1 : ∀ t, be a b c d e a t = be a' b' c' d' e' a' t := fun t => by
    unfold be; rw [t2, t3, t4, t5, hh pa (le_self a a'), hh pb ba, hh pc ca, hh pd da, hh pe ea]
  have f2 : ∀ t, be a b c d e b t = be a' b' c' d' e' b' t := fun t => by
    unfold be; rw [t2, t3, t4, t5, hh pa ab, hh pb (le_self b b'), hh pc cb, hh pd db, hh pe eb]
  have f3 : ∀ t, be a b c d e c t = be a' b' c' d' e' c' t := fun t => by
    unfold be; rw [t2, t3, t4, t5, hh pa ac, hh pb bc, hh pc (le_self c c'), hh pd dc, hh pe ec]
  have f4 : ∀ t, be a b c d e d t = be a' b' c' d' e' d' t := fun t => by
    unfold be; rw [t2, t3, t4, t5, hh pa ad, hh pb bd, hh pc cd, hh pd (le_self d d'), hh pe ed]
  have f5 : ∀ t, be a b c d e e t = be a' b' c' d' e' e' t := fun t => by
    unfold be; rw [t2, t3, t4, t5, hh pa ae, hh pb be', hh pc ce, hh pd de, hh pe (le_self e e')]
  have g1 := nn za (f1 1)
  have g2 := nn zb (f2 (tn2 a' b'))
  have g3 := nn zc (f3 (tn3 a' b' c'))
  have g4 := nn zd (f4 (tn4 a' b' c' d'))
  have g5 := nn ze (f5 (tn5 a' b' c' d' e'))
  rw [g1, g2, g3, g4, g5]
end Mine
end
section
set_option maxRecDepth 100000
namespace Mine
noncomputable def nzs (l : List Int) : List Int := l.filter (fun n => decide (n ≠ 0))
noncomputable def Alike (l : List Int) : Prop := ∀ x ∈ nzs l, ∀ y ∈ nzs l, x = y
noncomputable def mostOf (m : Nat) : Int := 2 ^ (5 - m) * ([1, 1, 2, 3, 6, 10] : List Int).getD m 0
structure Concl (k₀ k₁ : Int) (l : List Int) : Prop where
  le : k₀ ≤ k₁
  most : k₁ ≤ mostOf (nzs l).length
  one : k₀ = mostOf (nzs l).length ↔ Alike l
  two : k₁ = mostOf (nzs l).length ↔ Alike l
theorem concl_perm {k₀ k₁ : Int} {l l' : List Int} (p : l.Perm l') (h : Concl k₀ k₁ l) : Concl k₀ k₁ l' := by
  have q : (nzs l).Perm (nzs l') := p.filter _
  have e : (nzs l).length = (nzs l').length := q.length_eq
  have a : Alike l ↔ Alike l' := ⟨fun h x hx y hy => h x (q.mem_iff.mpr hx) y (q.mem_iff.mpr hy), fun h x hx y hy => h x (q.mem_iff.mp hx) y (q.mem_iff.mp hy)⟩
  obtain ⟨h1, h2, h3, h4⟩ := h
  rw [e] at h2 h3 h4
  rw [a] at h3 h4
  exact ⟨h1, h2, h3, h4⟩
noncomputable def GG (a b c d e : Int) : Prop := 0 ≤ a → 0 ≤ b → 0 ≤ c → 0 ≤ d → 0 ≤ e → ∀ k₀ k₁, IsTop [a, b, c, d, e] k₀ → IsTop (sm a b c d e) k₁ → Concl k₀ k₁ [a, b, c, d, e]
noncomputable def steps (a b c d e : Int) : Prop := (a = 0 ∨ a = b) ∧ (b = 0 ∨ b = c) ∧ (c = 0 ∨ c = d) ∧ (d = 0 ∨ d = e)
theorem step_up {a b : Int} (h : 0 ≤ a) (k : a ≤ b) (f : a ≠ 0 → b ≠ 0 → a = b) : a = 0 ∨ a = b := by
  by_cases q : a = 0
  · exact .inl q
  · exact .inr (f q (by omega))
theorem step_dn {c d e : Int} (g : c = 0 ∨ c = d) (k : d ≠ 0 → d = e) : c ≠ 0 → c = e := fun q =>
  (g.resolve_left q).trans (k fun r => q ((g.resolve_left q).trans r))
theorem mem_nzs {a b c d e x : Int} : x ∈ nzs [a, b, c, d, e] ↔ ((x = a ∨ x = b ∨ x = c ∨ x = d ∨ x = e) ∧ x ≠ 0) := by
  unfold nzs; rw [List.mem_filter]; simp
theorem alike_iff {a b c d e : Int} (h0 : 0 ≤ a) (h1 : a ≤ b) (h2 : b ≤ c) (h3 : c ≤ d) (h4 : d ≤ e) : Alike [a, b, c, d, e] ↔ steps a b c d e := by
  constructor
  · intro h
    have f1 : a ≠ 0 → b ≠ 0 → a = b := fun q r => h a (mem_nzs.mpr ⟨.inl rfl, q⟩) b (mem_nzs.mpr ⟨.inr (.inl rfl), r⟩)
    have f2 : b ≠ 0 → c ≠ 0 → b = c := fun q r => h b (mem_nzs.mpr ⟨.inr (.inl rfl), q⟩) c (mem_nzs.mpr ⟨.inr (.inr (.inl rfl)), r⟩)
    have f3 : c ≠ 0 → d ≠ 0 → c = d := fun q r => h c (mem_nzs.mpr ⟨.inr (.inr (.inl rfl)), q⟩) d (mem_nzs.mpr ⟨.inr (.inr (.inr (.inl rfl))), r⟩)
    have f4 : d ≠ 0 → e ≠ 0 → d = e := fun q r => h d (mem_nzs.mpr ⟨.inr (.inr (.inr (.inl rfl))), q⟩) e (mem_nzs.mpr ⟨.inr (.inr (.inr (.inr rfl))), r⟩)
    have p1 := Int.le_trans h0 h1
    have p2 := Int.le_trans p1 h2
    exact ⟨step_up h0 h1 f1, step_up p1 h2 f2, step_up p2 h3 f3, step_up (Int.le_trans p2 h3) h4 f4⟩
  · rintro ⟨g1, g2, g3, g4⟩ x hx y hy
    have ke : e ≠ 0 → e = e := fun _ => rfl
    have kd := step_dn g4 ke
    have kc := step_dn g3 kd
    have kb := step_dn g2 kc
    have ka := step_dn g1 kb
    have k : ∀ z, ((z = a ∨ z = b ∨ z = c ∨ z = d ∨ z = e) ∧ z ≠ 0) → z = e := by
      rintro z ⟨q, r⟩
      rcases q with q | q | q | q | q <;> rw [q] at r ⊢
      · exact ka r
      · exact kb r
      · exact kc r
      · exact kd r
    rw [k x (mem_nzs.mp hx), k y (mem_nzs.mp hy)]
noncomputable def gp (b : Bool) : Int := if b then 1 else 0
noncomputable def topN (l : List Int) : Nat := ((doubled l).map (fun x => (doubled l).count x)).foldl max 0
noncomputable def idx (p0 p1 p2 p3 p4 : Bool) : Nat := p0.toNat + 2 * p1.toNat + 4 * p2.toNat + 8 * p3.toNat + 16 * p4.toNat
noncomputable def check5 (p0 p1 p2 p3 p4 : Bool) : Bool :=
  let a := gp p0
  let b := gp p0 + gp p1
  let c := gp p0 + gp p1 + gp p2
  let d := gp p0 + gp p1 + gp p2 + gp p3
  let e := gp p0 + gp p1 + gp p2 + gp p3 + gp p4
  let r := sm a b c d e
  let n := topN r
  let al := decide ((a = 0 ∨ a = b) ∧ (b = 0 ∨ b = c) ∧ (c = 0 ∨ c = d) ∧ (d = 0 ∨ d = e))
  let m := mostOf (nzs [a, b, c, d, e]).length
  coverOk [p0, p1, p2, p3, p4] (covers.getD (idx p0 p1 p2 p3 p4) []) n &&
  ((doubled r).any (fun x => (doubled r).count x == n) && (doubled r).all (fun x => decide ((doubled r).count x ≤ n))) &&
  decide ((n : Int) ≤ m) && (decide ((n : Int) = m) == al) && (!al || decide (r = [a, b, c, d, e]))
theorem check_ff : ∀ p2 p3 p4 : Bool, check5 false false p2 p3 p4 = true := by decide +kernel
theorem check_ft : ∀ p2 p3 p4 : Bool, check5 false true p2 p3 p4 = true := by decide +kernel
theorem check_tf : ∀ p2 p3 p4 : Bool, check5 true false p2 p3 p4 = true := by decide +kernel
theorem check_tt : ∀ p2 p3 p4 : Bool, check5 true true p2 p3 p4 = true := by decide +kernel
theorem check_all : ∀ p0 p1 p2 p3 p4 : Bool, check5 p0 p1 p2 p3 p4 = true
  | false, false => check_ff
  | false, true => check_ft
  | true, false => check_tf
  | true, true => check_tt
theorem nzs_len {a b c d e a' b' c' d' e' : Int} (za : a = 0 ↔ a' = 0) (zb : b = 0 ↔ b' = 0) (zc : c = 0 ↔ c' = 0) (zd : d = 0 ↔ d' = 0) (ze : e = 0 ↔ e' = 0) :
    (nzs [a, b, c, d, e]).length = (nzs [a', b', c', d', e']).length := by
  have k : ∀ {x x' : Int}, (x = 0 ↔ x' = 0) → decide (x ≠ 0) = decide (x' ≠ 0) := fun h => by simp only [ne_eq, h]
  unfold nzs
  rw [← List.countP_eq_length_filter, ← List.countP_eq_length_filter]
  simp only [List.countP_cons, List.countP_nil, k za, k zb, k zc, k zd, k ze]
/-- the gap and its sign -/
structure Zg (x x' : Int) : Prop where
  p : 0 ≤ x
  p' : 0 ≤ x'
  z : x = 0 ↔ x' = 0
theorem zg_of {d : Int} (h : 0 ≤ d) : Zg d (gp (decide (0 < d))) := by
  unfold gp
  by_cases q : 0 < d
  · rw [decide_eq_true q]; exact ⟨h, by decide, by simp; omega⟩
  · rw [decide_eq_false q]; exact ⟨h, by decide, by simp; omega⟩
theorem gp01 (b : Bool) : gp b = 0 ∨ gp b = 1 := by cases b <;> simp [gp]
theorem Zg.add {x x' y y' : Int} (h : Zg x x') (k : Zg y y') : Zg (x + y) (x' + y') := by
  obtain ⟨h1, h2, h3⟩ := h
  obtain ⟨k1, k2, k3⟩ := k
  exact ⟨Int.add_nonneg h1 k1, Int.add_nonneg h2 k2, by omega⟩
theorem Zg.pos {x x' : Int} (h : Zg x x') : 0 < x ↔ 0 < x' := by
  obtain ⟨h1, h2, h3⟩ := h
  omega
/-- b is a and some gaps -/
structure Up (a a' b b' : Int) : Prop where
  p : a ≤ b
  p' : a' ≤ b'
  z : b ≤ a ↔ b' ≤ a'
theorem Up.one {a a' y y' : Int} (k : Zg y y') : Up a a' (a + y) (a' + y') := by
  obtain ⟨k1, k2, k3⟩ := k
  exact ⟨by omega, by omega, by omega⟩
theorem Up.step {a a' b b' y y' : Int} (h : Up a a' b b') (k : Zg y y') : Up a a' (b + y) (b' + y') := by
  obtain ⟨h1, h2, h3⟩ := h
  obtain ⟨k1, k2, k3⟩ := k
  exact ⟨by omega, by omega, by omega⟩
theorem Up.le {a a' b b' : Int} (h : Up a a' b b') : a ≤ b ↔ a' ≤ b' := ⟨fun _ => h.p', fun _ => h.p⟩
theorem Up.eq {a a' b b' : Int} (h : Up a a' b b') : a = b ↔ a' = b' := eq_of_le h.le h.z
theorem gapOk_of {p : List Bool} {j : Nat} {d : Int} (h : 0 ≤ d) (e : p.getD j false = decide (0 < d)) : gapOk p j d := by
  unfold gapOk
  rw [e]
  refine ⟨of_decide_eq_true, fun q => ?_⟩
  have := of_decide_eq_false q
  omega
/-- a place of the smaller list: nought, or as great as the last -/
noncomputable def Kx (E G z g : Int) : Prop := (z = 0 ∧ g = 0) ∨ (z = E ∧ g = G)
theorem Kx.dn {E G y h z g : Int} (k : Kx E G y h) (zz : z = 0 ↔ g = 0) (u : z = y ↔ g = h) (st : g = 0 ∨ g = h) : Kx E G z g := by
  rcases st with st | st
  · exact .inl ⟨zz.mpr st, st⟩
  · rw [u.mpr st, st]; exact k
theorem Kx.mul {E G z g v : Int} (k : Kx E G z g) (h : E = v * G) : z = v * g := by
  rcases k with ⟨rfl, rfl⟩ | ⟨rfl, rfl⟩
  · exact (Int.mul_zero _).symm
  · exact h
theorem one_up {G g : Int} (h : G = 0 ∨ G = 1) (k : g = 0 ∨ g = 1) (s : G = 0 ∨ G = G + g) : G + g = 0 ∨ G + g = 1 := by omega
theorem le_top {n n' : Nat} {k : Int} (e : k = n') (h : n ≤ n') : (n : Int) ≤ k := by rw [e]; exact Int.ofNat_le.mpr h
theorem sorted5 (d0 d1 d2 d3 d4 : Int) (h0 : 0 ≤ d0) (h1 : 0 ≤ d1) (h2 : 0 ≤ d2) (h3 : 0 ≤ d3) (h4 : 0 ≤ d4) :
    GG d0 (d0 + d1) (d0 + d1 + d2) (d0 + d1 + d2 + d3) (d0 + d1 + d2 + d3 + d4) := by
  intro _ _ _ _ _ k₀ k₁ t₀ t₁
  have ck := check_all (decide (0 < d0)) (decide (0 < d1)) (decide (0 < d2)) (decide (0 < d3)) (decide (0 < d4))
  have s0 := zg_of h0
  have s1 := zg_of h1
  have s2 := zg_of h2
  have s3 := zg_of h3
  have s4 := zg_of h4
  have b0 := gp01 (decide (0 < d0))
  have b1 := gp01 (decide (0 < d1))
  have b2 := gp01 (decide (0 < d2))
  have b3 := gp01 (decide (0 < d3))
  have b4 := gp01 (decide (0 < d4))
  have cov := fun n => @cover_le [decide (0 < d0), decide (0 < d1), decide (0 < d2), decide (0 < d3), decide (0 < d4)] d0 d1 d2 d3 d4 (gapOk_of h0 rfl) (gapOk_of h1 rfl) (gapOk_of h2 rfl) (gapOk_of h3 rfl) (gapOk_of h4 rfl)
    (covers.getD (idx (decide (0 < d0)) (decide (0 < d1)) (decide (0 < d2)) (decide (0 < d3)) (decide (0 < d4))) []) n
  unfold check5 at ck
  generalize covers.getD (idx (decide (0 < d0)) (decide (0 < d1)) (decide (0 < d2)) (decide (0 < d3)) (decide (0 < d4))) [] = chs at ck cov
  generalize [decide (0 < d0), decide (0 < d1), decide (0 < d2), decide (0 < d3), decide (0 < d4)] = pp at ck cov
  generalize gp (decide (0 < d0)) = g0 at ck s0 b0
  generalize gp (decide (0 < d1)) = g1 at ck s1 b1
  generalize gp (decide (0 < d2)) = g2 at ck s2 b2
  generalize gp (decide (0 < d3)) = g3 at ck s3 b3
  generalize gp (decide (0 < d4)) = g4 at ck s4 b4
  dsimp only at ck
  rw [Bool.and_eq_true, Bool.and_eq_true, Bool.and_eq_true, Bool.and_eq_true] at ck
  obtain ⟨⟨⟨⟨c1, c2⟩, c3⟩, c4⟩, c5⟩ := ck
  have z1 := s0.add s1
  have z2 := z1.add s2
  have z3 := z2.add s3
  have z4 := z3.add s4
  have u01 := @Up.one d0 g0 _ _ s1
  have u02 := u01.step s2
  have u03 := u02.step s3
  have u04 := u03.step s4
  have u12 := @Up.one (d0 + d1) (g0 + g1) _ _ s2
  have u13 := u12.step s3
  have u14 := u13.step s4
  have u23 := @Up.one (d0 + d1 + d2) (g0 + g1 + g2) _ _ s3
  have u24 := u23.step s4
  have u34 := @Up.one (d0 + d1 + d2 + d3) (g0 + g1 + g2 + g3) _ _ s4
  have tn := isTop_of _ _ c2
  generalize eA : d0 + d1 = A at *
  generalize eB : A + d2 = B at *
  generalize eC : B + d3 = C at *
  generalize eE : C + d4 = E at *
  generalize eA' : g0 + g1 = A' at *
  generalize eB' : A' + g2 = B' at *
  generalize eC' : B' + g3 = C' at *
  generalize eE' : C' + g4 = E' at *
  have esm : sm d0 A B C E = sm g0 A' B' C' E' := 
    sm_congr s0.pos z1.pos z2.pos z3.pos z4.pos s0.z z1.z z2.z z3.z z4.z u01.le u02.le u03.le u04.le u01.z u12.le u13.le u14.le u02.z u12.z u23.le u24.le u03.z u13.z u23.z u34.le u04.z u14.z u24.z u34.z
  have enz : (nzs [d0, A, B, C, E]).length = (nzs [g0, A', B', C', E']).length := nzs_len s0.z z1.z z2.z z3.z z4.z
  have ea : Alike [d0, A, B, C, E] ↔ steps g0 A' B' C' E' := by
    rw [alike_iff h0 u01.p u12.p u23.p u34.p]
    exact and_congr (or_congr s0.z u01.eq) (and_congr (or_congr z1.z u12.eq) (and_congr (or_congr z2.z u23.eq) (or_congr z3.z u34.eq)))
  rw [esm] at t₁
  have hk1 := t₁.uniq tn
  have hle : k₀ ≤ k₁ := by
    obtain ⟨x, hx⟩ := t₀.1
    rw [← hx]
    exact le_top hk1 (cov _ c1 x)
  have hm : k₁ ≤ mostOf (nzs [g0, A', B', C', E']).length := by
    rw [hk1]; exact of_decide_eq_true c3
  have h1' : k₁ = mostOf (nzs [g0, A', B', C', E']).length ↔ steps g0 A' B' C' E' := by
    have c4' := beq_iff_eq.mp c4
    rw [hk1]
    exact decide_eq_decide.mp c4'
  refine ⟨hle, by rw [enz]; exact hm, ?_, by rw [enz, ea]; exact h1'⟩
  rw [enz, ea]
  constructor
  · intro q
    exact h1'.mp (Int.le_antisymm hm (q ▸ hle))
  · intro st
    have q1 := h1'.mpr st
    rw [← q1]
    refine Int.le_antisymm hle ?_
    have st' : decide ((g0 = 0 ∨ g0 = A') ∧ (A' = 0 ∨ A' = B') ∧ (B' = 0 ∨ B' = C') ∧ (C' = 0 ∨ C' = E')) = true := decide_eq_true st
    rw [st'] at c5
    have er := of_decide_eq_true (p := sm g0 A' B' C' E' = [g0, A', B', C', E']) c5
    rw [er] at tn
    rw [hk1]
    rw [er]
    obtain ⟨x, hx⟩ := tn.1
    rw [← hx]
    obtain ⟨w1, w2, w3, w4⟩ := st
    have i1 : A' = 0 ∨ A' = 1 := by have := one_up b0 b1 (by rw [eA']; exact w1); rwa [eA'] at this
    have i2 : B' = 0 ∨ B' = 1 := by have := one_up i1 b2 (by rw [eB']; exact w2); rwa [eB'] at this
    have i3 : C' = 0 ∨ C' = 1 := by have := one_up i2 b3 (by rw [eC']; exact w3); rwa [eC'] at this
    have i4 : E' = 0 ∨ E' = 1 := by have := one_up i3 b4 (by rw [eE']; exact w4); rwa [eE'] at this
    obtain ⟨v, hv, ev⟩ : ∃ v : Int, v ≠ 0 ∧ E = v * E' := by
      rcases i4 with i4 | i4
      · exact ⟨1, by decide, by rw [z4.z.mpr i4, i4]; rfl⟩
      · exact ⟨E, fun q => by have := z4.z.mp q; rw [i4] at this; exact absurd this (by decide), by rw [i4]; exact (Int.mul_one _).symm⟩
    have k4 : Kx E E' E E' := .inr ⟨rfl, rfl⟩
    have k3 := k4.dn z3.z u34.eq w4
    have k2 := k3.dn z2.z u23.eq w3
    have k1 := k2.dn z1.z u12.eq w2
    have k0 := k1.dn s0.z u01.eq w1
    have sc := cnt_scale v hv [g0, A', B', C', E'] x
    simp only [List.map_cons, List.map_nil] at sc
    rw [← k0.mul ev, ← k1.mul ev, ← k2.mul ev, ← k3.mul ev, ← k4.mul ev] at sc
    rw [← sc]
    exact t₀.2 _
theorem gap_of {a b : Int} (h : a ≤ b) : ∃ d, 0 ≤ d ∧ b = a + d := ⟨b - a, by omega, by omega⟩
theorem all5 : ∀ a b c d e, GG a b c d e := by
  have pq : ∀ {l l' m m' : List Int} , l.Perm l' → m.Perm m' → (∀ k₀ k₁, IsTop l k₀ → IsTop m k₁ → Concl k₀ k₁ l) → ∀ k₀ k₁, IsTop l' k₀ → IsTop m' k₁ → Concl k₀ k₁ l' :=
    fun p q h k₀ k₁ t₀ t₁ => concl_perm p (h k₀ k₁ (t₀.perm p.symm) (t₁.perm q.symm))
  refine sort5 ?_ ?_ ?_ ?_ ?_
  · intro a b c d e h ha hb hc hd he
    exact pq (List.Perm.swap _ _ _) (sm_swap0 _ _ _ _ _) (h hb ha hc hd he)
  · intro a b c d e h ha hb hc hd he
    exact pq ((List.Perm.swap _ _ _).cons _) (sm_swap1 _ _ _ _ _) (h ha hc hb hd he)
  · intro a b c d e h ha hb hc hd he
    exact pq (((List.Perm.swap _ _ _).cons _).cons _) (sm_swap2 _ _ _ _ _) (h ha hb hd hc he)
  · intro a b c d e h ha hb hc hd he
    exact pq ((((List.Perm.swap _ _ _).cons _).cons _).cons _) (sm_swap3 _ _ _ _ _) (h ha hb hc he hd)
  · intro a b c d e h1 h2 h3 h4 ha hb hc hd he
    obtain ⟨d1, p1, rfl⟩ := gap_of h1
    obtain ⟨d2, p2, rfl⟩ := gap_of h2
    obtain ⟨d3, p3, rfl⟩ := gap_of h3
    obtain ⟨d4, p4, rfl⟩ := gap_of h4
    exact sorted5 a d1 d2 d3 d4 ha p1 p2 p3 p4 ha hb hc hd he
end Mine
end
section
open PySem PySem.W PySem.W.X PyProof.Rows
set_option maxRecDepth 100000 in
set_option maxHeartbeats 8000000 in
open_top Mine.hdx for PySem.Challenge.rw_oy0026_01
end
section
open PySem PySem.W PySem.W.X PyProof.Rows PySem.Calls
set_option maxRecDepth 100000
namespace Mine
noncomputable abbrev PR : Program := PySem.Challenge.rw_oy0026_01.row.prog
noncomputable abbrev MM (w : World) : Model := model PR w
noncomputable abbrev Facts := List (Addr × Obj)
noncomputable def Has (fs : Facts) (h : Heap) : Prop := ∀ p ∈ fs, h.get? p.1 = some p.2
/-- the heap has grown: everything but what lies at ts is as it was -/
structure Gr (ts : List Addr) (h h' : Heap) : Prop where
  keep : ∀ b o, b ∉ ts → h.get? b = some o → h'.get? b = some o
theorem Gr.refl (ts : List Addr) (h : Heap) : Gr ts h h := ⟨fun _ _ _ e => e⟩
theorem Gr.trans {ts : List Addr} {h h' h'' : Heap} (a : Gr ts h h') (b : Gr ts h' h'') : Gr ts h h'' := ⟨fun x o n e => b.keep x o n (a.keep x o n e)⟩
theorem Gr.weak {ts : List Addr} {h h' : Heap} (a : Gr [] h h') : Gr ts h h' := ⟨fun x o _ e => a.keep x o (by simp) e⟩
theorem Gr.all {h h' : Heap} (a : Gr [] h h') : ∀ b o, h.get? b = some o → h'.get? b = some o := fun b o e => a.keep b o (by simp) e
theorem Gr.of {h h' : Heap} (k : ∀ b o, h.get? b = some o → h'.get? b = some o) : Gr [] h h' := ⟨fun b o _ e => k b o e⟩
theorem Gr.push (ts : List Addr) (h : Heap) (o : Obj) : Gr ts h (h.push o) := ⟨fun b x _ e => Heap.get?_push_of_some _ e⟩
theorem none_ne {h : Heap} {a b : Addr} {o : Obj} (n : h.get? a = none) (e : h.get? b = some o) : b ≠ a := fun q => by rw [q, n] at e; cases e
theorem size_none (h : Heap) : h.get? h.objs.size = none := Heap.get?_none_of_le (Nat.le_refl _)
theorem Has.gr {fs : Facts} {h h' : Heap} (a : Has fs h) (g : Gr [] h h') : Has fs h' := fun p hp => g.all _ _ (a p hp)
/-- the written part of the top, less the two tables of codes that a call may grow -/
noncomputable def K0 (P : Params) : Frag := (Mine.hdx.heap_39 P).filter fun p => p.1 != 24 && p.1 != 64
theorem lookup_filter {p : Addr × Obj → Bool} {a : Addr} {o : Obj} (hp : ∀ x y, p (a, x) = p (a, y)) : ∀ l : Frag, List.lookup a (l.filter p) = some o → List.lookup a l = some o
  | [], h => by simp at h
  | (b, x) :: l, h => by
    by_cases e : a = b
    · subst e
      by_cases q : p (a, x) = true
      · rw [List.filter_cons_of_pos q] at h
        simpa [List.lookup_cons] using h
      · rw [List.filter_cons_of_neg q] at h
        exfalso
        have : ∀ l : Frag, List.lookup a (l.filter p) = none := by
          intro l
          induction l with
          | nil => rfl
          | cons y l ih =>
            obtain ⟨c, z⟩ := y
            by_cases r : p (c, z) = true
            · rw [List.filter_cons_of_pos r]
              have : (a == c) = false := by
                rw [beq_eq_false_iff_ne]; intro w; subst w; exact q ((hp x z).trans r)
              rw [List.lookup_cons, this]; exact ih
            · rw [List.filter_cons_of_neg r]; exact ih
        rw [this] at h; cases h
    · have ne : (a == b) = false := by simpa using e
      by_cases q : p (b, x) = true
      · rw [List.filter_cons_of_pos q, List.lookup_cons, ne] at h
        rw [List.lookup_cons, ne]; exact lookup_filter hp l h
      · rw [List.filter_cons_of_neg q] at h
        rw [List.lookup_cons, ne]; exact lookup_filter hp l h
theorem K0_in {w : World} {h : Heap} (X : (Mine.hdx.heap_39 w.params).In h) : (K0 w.params).In h := fun a o e => X a o (lookup_filter (fun _ _ => rfl) _ e)
theorem K0_not {P : Params} {a : Addr} {o : Obj} (e : (K0 P).lookup a = some o) : a ≠ 24 ∧ a ≠ 64 := by
  unfold K0 at e
  have key : ∀ l : Frag, List.lookup a (l.filter fun p => p.1 != 24 && p.1 != 64) = some o → a ≠ 24 ∧ a ≠ 64 := by
    intro l
    induction l with
    | nil => intro h; simp at h
    | cons y l ih =>
      obtain ⟨c, z⟩ := y
      intro h
      by_cases r : (c != 24 && c != 64) = true
      · rw [List.filter_cons_of_pos (p := fun p : Addr × Obj => p.1 != 24 && p.1 != 64) r, List.lookup_cons] at h
        by_cases q : a = c
        · subst q; simpa using r
        · have : (a == c) = false := by simpa using q
          rw [this] at h; exact ih h
      · rw [List.filter_cons_of_neg (p := fun p : Addr × Obj => p.1 != 24 && p.1 != 64) r] at h
        exact ih h
  exact key _ e
noncomputable def Tabs (ts : List Addr) : Prop := ∀ t ∈ ts, t = 24 ∨ t = 64
theorem Tabs.nil : Tabs [] := fun _ h => nomatch h
structure Wd (w : World) (mg mb : Str → Option Value) (h : Heap) : Prop where
  g : h.Ns mainGlobals mg
  b : h.Ns builtinsNs mb
  lim : h.NoLimit
  k : (K0 w.params).In h
  bi : ∀ x : Str, x ≠ "__name__" → mb x = bootBuiltins x
  m4 : ∃ ob, h.get? 4 = some ob ∧ ob.cls = .type "module" ∧ ob.dict = some builtinsNs ∧ ob.data = .plain
  sm : ∃ o, h.get? sysModules = some o
theorem ns_at {h h' : Heap} {a : Addr} {m : Str → Option Value} (x : h.Ns a m) (k : ∀ o, h.get? a = some o → h'.get? a = some o) : h'.Ns a m :=
  let ⟨o, es, ep, ho, r⟩ := x; ⟨o, es, ep, k o ho, r⟩
theorem Wd.gr {w : World} {mg mb : Str → Option Value} {h h' : Heap} {ts : List Addr} (W : Wd w mg mb h) (T : Tabs ts) (G : Gr ts h h') : Wd w mg mb h' := by
  have ne : ∀ a : Addr, a ≠ 24 → a ≠ 64 → a ∉ ts := fun a n1 n2 q => (T a q).elim n1 n2
  refine ⟨ns_at W.g fun o e => G.keep _ o (ne _ (by decide) (by decide)) e, ns_at W.b fun o e => G.keep _ o (ne _ (by decide) (by decide)) e, ?_, fun a o e => ?_, W.bi, let ⟨ob, e, r⟩ := W.m4; ⟨ob, G.keep _ _ (ne _ (by decide) (by decide)) e, r⟩, let ⟨o, e⟩ := W.sm; ⟨o, G.keep _ _ (ne _ (by decide) (by decide)) e⟩⟩
  · obtain ⟨mc, h1, h2⟩ := W.lim
    exact ⟨mc, ns_at h1 fun o e => G.keep _ o (ne _ (by decide) (by decide)) e, h2⟩
  · obtain ⟨n1, n2⟩ := K0_not e
    exact G.keep a o (ne a n1 n2) (W.k a o e)
noncomputable def bbTab : List (Str × Value) := [("iter", .builtin "iter"), ("range", .type "range"), ("len", .builtin "len"), ("abs", .builtin "abs"), ("max", .builtin "max"), ("hex", .builtin "hex"), ("sorted", .builtin "sorted"), ("enumerate", .type "enumerate"), ("object", .type "object"), ("__build_class__", .builtin "__build_class__")]
theorem bb_ok : ∀ p ∈ bbTab, p.1 ≠ "__name__" ∧ bootBuiltins p.1 = some p.2 := by
  intro p hp
  simp only [bbTab, List.mem_cons, List.not_mem_nil, or_false] at hp
  rcases hp with rfl | rfl | rfl | rfl | rfl | rfl | rfl | rfl | rfl | rfl <;> exact ⟨by decide +kernel, by decide +kernel⟩
noncomputable def bbOf (x : Str) : Option Value := bbTab.lookup x
theorem lookup_in {x : Str} {v : Value} : ∀ {l : List (Str × Value)}, l.lookup x = some v → (x, v) ∈ l
  | [], e => nomatch e
  | (y, u) :: l, e => by
    rw [List.lookup_cons] at e
    cases h : x == y with
    | true => rw [h] at e; cases e; rw [beq_iff_eq.mp h]; exact .head _
    | false => rw [h] at e; exact .tail _ (lookup_in e)
theorem Wd.blt {w : World} {mg mb : Str → Option Value} {h : Heap} (W : Wd w mg mb h) {x : Str} {v : Value} (e : bbOf x = some v) : mb x = some v :=
  have m := bb_ok _ (lookup_in e)
  (W.bi x m.1).trans m.2
theorem ns_of {K : Frag} {h : Heap} {a : Addr} {m : Str → Option Value} {n : Str} {r : Option Value} (X : K.In h) (G : h.Ns a m) (e : nsIn K a n = some r) : m n = r := by
  obtain ⟨o, es, ep, ho, hd, _, hf⟩ := G
  unfold nsIn at e
  split at e
  · rename_i c d es' n' sl q
    have := X _ _ q
    rw [ho] at this
    cases this
    cases hd
    rw [← hf]
    unfold nsFind findBy
    rw [← Array.find?_toList]
    split at e
    · rename_i en he
      cases e
      rw [he]; rfl
    · rename_i he
      rw [he]
      split at e
      · cases e
      · cases e; rfl
  · cases e
/-- a frame: its names, what the call has made and still holds; everything older is kept -/
structure Sta (ts : List Addr) (h₀ : Heap) (L : Addr) (m : Str → Option Value) (ow : Facts) (h : Heap) : Prop where
  gr : Gr ts h₀ h
  lo : h₀.get? L = none
  ns : h.Ns L m
  own : Has ow h
  gt : ∀ p ∈ ow, p.1 ≠ L ∧ h₀.get? p.1 = none
  ord : (ow.map (·.1)).Pairwise (· ≠ ·)
section
variable {ts : List Addr} {h₀ h h' : Heap} {L : Addr} {m m' : Str → Option Value} {ow : Facts}
theorem Sta.set (S : Sta ts h₀ L m ow h) (hn : h'.Ns L m') (hs : Heap.SameBut L h h') : Sta ts h₀ L m' ow h' :=
  ⟨⟨fun b o n e => (hs.2 b (none_ne S.lo e)).trans (S.gr.keep b o n e)⟩, S.lo, hn, fun p hp => (hs.2 p.1 (S.gt p hp).1).trans (S.own p hp), S.gt, S.ord⟩
theorem Sta.grow (S : Sta ts h₀ L m ow h) (G : Gr [] h h') : Sta ts h₀ L m ow h' :=
  ⟨S.gr.trans G.weak, S.lo, ns_at S.ns fun o e => G.all _ o e, S.own.gr G, S.gt, S.ord⟩
/-- what is new to h is new to h₀ too (the tables at ts aside) -/
theorem Sta.fresh (S : Sta [] h₀ L m ow h) {a : Addr} (n : h.get? a = none) : a ≠ L ∧ h₀.get? a = none := by
  refine ⟨fun q => ?_, ?_⟩
  · obtain ⟨o, es, ep, e, _⟩ := S.ns
    rw [← q, n] at e; cases e
  · cases e : h₀.get? a with
    | none => rfl
    | some o => rw [S.gr.all a o e] at n; cases n
theorem Sta.freshT (S : Sta ts h₀ L m ow h) (hts : ∀ b ∈ ts, ∃ o, h.get? b = some o) {a : Addr} (n : h.get? a = none) : a ≠ L ∧ h₀.get? a = none := by
  refine ⟨fun q => ?_, ?_⟩
  · obtain ⟨o, es, ep, e, _⟩ := S.ns
    rw [← q, n] at e; cases e
  · cases e : h₀.get? a with
    | none => rfl
    | some o =>
      have : a ∉ ts := fun q => by obtain ⟨x, hx⟩ := hts a q; rw [hx] at n; cases n
      rw [S.gr.keep a o this e] at n; cases n
theorem Sta.adds' (S : Sta ts h₀ L m ow h) (G : Gr [] h h') {fs : Facts} (ge : ∀ p ∈ fs, h.get? p.1 = none) (fr : ∀ p ∈ fs, p.1 ≠ L ∧ h₀.get? p.1 = none) (ho : Has fs h') (hord : (fs.map (·.1)).Pairwise (· ≠ ·)) : Sta ts h₀ L m (fs ++ ow) h' := by
  have S' := S.grow G
  refine ⟨S'.gr, S.lo, S'.ns, fun p hp => ?_, fun p hp => ?_, ?_⟩
  · rcases List.mem_append.mp hp with hp | hp
    · exact ho p hp
    · exact S'.own p hp
  · rcases List.mem_append.mp hp with hp | hp
    · exact fr p hp
    · exact S.gt p hp
  · rw [List.map_append]
    refine List.pairwise_append.mpr ⟨hord, S.ord, fun a ha b hb => ?_⟩
    obtain ⟨p, hp, rfl⟩ := List.mem_map.mp ha
    obtain ⟨q, hq, rfl⟩ := List.mem_map.mp hb
    exact (none_ne (ge p hp) (S.own q hq)).symm
theorem Sta.adds (S : Sta [] h₀ L m ow h) (G : Gr [] h h') {fs : Facts} (ge : ∀ p ∈ fs, h.get? p.1 = none) (ho : Has fs h') (hord : (fs.map (·.1)).Pairwise (· ≠ ·)) : Sta [] h₀ L m (fs ++ ow) h' :=
  S.adds' G ge (fun p hp => S.fresh (ge p hp)) ho hord
theorem Sta.add (S : Sta [] h₀ L m ow h) (G : Gr [] h h') {a : Addr} {o : Obj} (ha : h.get? a = none) (ho : h'.get? a = some o) : Sta [] h₀ L m ((a, o) :: ow) h' :=
  S.adds (fs := [(a, o)]) G (fun p hp => by rw [List.mem_singleton.mp hp]; exact ha) (fun p hp => by rw [List.mem_singleton.mp hp]; exact ho) (List.pairwise_singleton _ _)
theorem Sta.push (S : Sta [] h₀ L m ow h) (o : Obj) (hf : o.isFreed = false) : Sta [] h₀ L m ((h.objs.size, o) :: ow) (h.push o) :=
  S.add (Gr.push _ _ _) (size_none h) (Heap.get?_push_size _ hf)
theorem Sta.drop (S : Sta ts h₀ L m ow h) {ow' : Facts} (hs : ow'.Sublist ow) : Sta ts h₀ L m ow' h :=
  ⟨S.gr, S.lo, S.ns, fun p hp => S.own p (hs.subset hp), fun p hp => S.gt p (hs.subset hp), S.ord.sublist (hs.map _)⟩
theorem pw_ne : ∀ {l : Facts} (_ : (l.map (·.1)).Pairwise (· ≠ ·)) {i j : Nat} {p q : Addr × Obj}, l[i]? = some p → l[j]? = some q → i ≠ j → p.1 ≠ q.1 := by
  intro l hp i j p q hi hj ne e
  obtain ⟨li, ei⟩ := List.getElem?_eq_some_iff.mp hi
  obtain ⟨lj, ej⟩ := List.getElem?_eq_some_iff.mp hj
  rcases Nat.lt_or_gt_of_ne ne with lt | lt
  · have := (List.pairwise_iff_getElem.mp hp) i j (by simpa using li) (by simpa using lj) lt
    rw [List.getElem_map, List.getElem_map, ei, ej] at this; exact this e
  · have := (List.pairwise_iff_getElem.mp hp) j i (by simpa using lj) (by simpa using li) lt
    rw [List.getElem_map, List.getElem_map, ei, ej] at this; exact this e.symm
theorem Sta.upd (S : Sta ts h₀ L m ow h) (i : Nat) {a : Addr} {o o' : Obj} (hi : ow[i]? = some (a, o)) (hs : Heap.SameBut a h h') (ho : h'.get? a = some o') : Sta ts h₀ L m (ow.set i (a, o')) h' := by
  have hm := List.mem_of_getElem? hi
  have gt := S.gt _ hm
  refine ⟨⟨fun b x n e => (hs.2 b (none_ne gt.2 e)).trans (S.gr.keep b x n e)⟩, S.lo, S.ns.sameBut hs gt.1.symm, fun p hp => ?_, fun p hp => ?_, ?_⟩
  · obtain ⟨j, hj, ej⟩ := List.mem_iff_getElem.mp hp
    by_cases e : i = j
    · subst e; rw [List.getElem_set_self] at ej; subst ej; exact ho
    · rw [List.getElem_set_ne e] at ej
      have hj' : j < ow.length := by simpa using hj
      have q : ow[j]? = some p := List.getElem?_eq_some_iff.mpr ⟨hj', ej⟩
      exact (hs.2 p.1 (pw_ne S.ord q hi (Ne.symm e))).trans (S.own p (List.mem_of_getElem? q))
  · rcases List.mem_or_eq_of_mem_set hp with hp | rfl
    · exact S.gt p hp
    · exact gt
  · have e : (ow.set i (a, o')).map (·.1) = ow.map (·.1) := by
      rw [List.map_set]
      exact set_same (by rw [List.getElem?_map, hi]; rfl)
    rw [e]; exact S.ord
theorem Sta.updLast {a : Addr} {o o' : Obj} (S : Sta ts h₀ L m (ow ++ [(a, o)]) h) (hs : Heap.SameBut a h h') (ho : h'.get? a = some o') : Sta ts h₀ L m (ow ++ [(a, o')]) h' := by
  have q := S.upd ow.length (a := a) (o := o) (by simp) hs ho
  simpa using q
/-- the object at i has turned in a way that is not told: it is dropped -/
theorem Sta.ext (S : Sta ts h₀ L m ow h) (i : Nat) {a : Addr} {o : Obj} (hi : ow[i]? = some (a, o)) (hs : Heap.ExtBut a h h') : Sta ts h₀ L m (ow.eraseIdx i) h' := by
  have gt := S.gt _ (List.mem_of_getElem? hi)
  refine ⟨⟨fun b x n e => hs b x (none_ne gt.2 e) (S.gr.keep b x n e)⟩, S.lo, ns_at S.ns fun o e => hs _ o gt.1.symm e, fun p hp => ?_, fun p hp => S.gt p (List.mem_of_mem_eraseIdx hp), S.ord.sublist ((List.eraseIdx_sublist _ _).map _)⟩
  obtain ⟨j, ne, hj⟩ := List.mem_eraseIdx_iff_getElem?.mp hp
  exact hs _ _ (pw_ne S.ord hj hi (Ne.symm ne.symm)) (S.own p (List.mem_of_getElem? hj))
theorem Sta.extLast {a : Addr} {o : Obj} (S : Sta ts h₀ L m (ow ++ [(a, o)]) h) (hs : Heap.ExtBut a h h') : Sta ts h₀ L m ow h' := by
  have q := S.ext ow.length (a := a) (o := o) (by simp) hs
  have e : (ow ++ [(a, o)]).eraseIdx ow.length = ow := by
    rw [List.eraseIdx_append_of_length_le (Nat.le_refl _)]; simp
  rw [e] at q; exact q
theorem Sta.mk' {h₀ h : Heap} {L : Addr} {m : Str → Option Value} (G : Gr ts h₀ h) (lo : h₀.get? L = none) (ns : h.Ns L m) : Sta ts h₀ L m [] h := ⟨G, lo, ns, (fun _ h => nomatch h), (fun _ h => nomatch h), List.Pairwise.nil⟩
end
end Mine
end
section
open PySem PySem.W PySem.W.X PyProof.Rows PySem.Calls
namespace Mine
theorem wp_gen {α : Type} {M : Model} {A : Around} {p : Sem α} {Q : α → Shared → Prop} {E : Value → Shared → Prop} {s : Shared}
    (h : ∀ Q' : α → Shared → Prop, (∀ v s, Q v s → Q' v s) → wpAny M A p Q' E s) : wpAny M A p Q E s := h Q fun _ _ x => x
theorem wp_gen2 {α : Type} {M : Model} {A : Around} {p : Sem α} {Q : α → Shared → Prop} {E : Value → Shared → Prop} {s : Shared}
    (h : ∀ (Q' : α → Shared → Prop) (E' : Value → Shared → Prop), (∀ v s, Q v s → Q' v s) → wpAny M A p Q' E' s) : wpAny M A p Q E s := h Q E fun _ _ x => x
theorem some_gen {α : Type} {x : Option α} {a : α} (h : x = some a) : ∃ b, b = a ∧ x = some b := ⟨a, rfl, h⟩
end Mine
end
section
open PySem PySem.W PySem.W.X PyProof.Rows PySem.Calls
set_option maxRecDepth 100000
namespace Mine
section
variable {w : World} {mg mb : Str → Option Value} {A : Around} {E : Value → Shared → Prop} {ts : List Addr} {h₀ h : Heap} {L : Addr} {m : Str → Option Value} {ow : Facts} {g : Array GenState} {d : Drawn} {t : Nat} {os : OsState} {env : Env} {x : Str} {v : Value} {pos : Pos}
theorem n_loc {Q : Value → Shared → Prop} (S : Sta ts h₀ L m ow h) (hv : m x = some v) (q : Q v ⟨h, g, d, t, os⟩) (hL : env.locals = L := by rfl) (hk : env.scope.kind = .function := by rfl) (hl : env.kindOf x = some .local := by rfl) (hd : (x == ("__debug__" : Str)) = false := by decide) :
    wpAny (MM w) A (eval (.Name x pos) env) Q E ⟨h, g, d, t, os⟩ := wpAny_Name (wpAny_loadName_local (m := m) hk hl (by rw [hL]; exact S.ns) hv q) hd
theorem n_glob {Q : Value → Shared → Prop} (W : Wd w mg mb h) (e : nsIn (K0 w.params) mainGlobals x = some (some v)) (q : Q v ⟨h, g, d, t, os⟩) (hg : env.globals = mainGlobals := by rfl) (hk : env.scope.kind = .function := by rfl) (hl : env.kindOf x = some .globalImplicit := by rfl) (hd : (x == ("__debug__" : Str)) = false := by decide) :
    wpAny (MM w) A (eval (.Name x pos) env) Q E ⟨h, g, d, t, os⟩ := Name_function_global hk hl (loadGlobal_global (mg := mg) (by rw [hg]; exact W.g) (ns_of W.k W.g e) q) hd
theorem n_blt {Q : Value → Shared → Prop} (W : Wd w mg mb h) (e : nsIn (K0 w.params) mainGlobals x = some none) (e' : bbOf x = some v) (q : Q v ⟨h, g, d, t, os⟩) (hg : env.globals = mainGlobals := by rfl) (hb : env.builtins = builtinsNs := by rfl) (hk : env.scope.kind = .function := by rfl) (hl : env.kindOf x = some .globalImplicit := by rfl) (hd : (x == ("__debug__" : Str)) = false := by decide) :
    wpAny (MM w) A (eval (.Name x pos) env) Q E ⟨h, g, d, t, os⟩ := Name_function_global hk hl (loadGlobal_builtin (mg := mg) (mb := mb) (by rw [hg]; exact W.g) (ns_of W.k W.g e) (by rw [hb]; exact W.b) (W.blt e') q) hd
theorem s_loc {Q : Unit → Shared → Prop} (S : Sta ts h₀ L m ow h) (q : ∀ h', Sta ts h₀ L (fun y => if y = x then some v else m y) ow h' → Q () ⟨h', g, d, t + 1, os⟩) (hL : env.locals = L := by rfl) (hl : env.kindOf x = some .local := by rfl)
    (hp : (env.scope.kind == .class || (env.scope.kind == .module && env.locals != env.globals)) = false := by rfl) : wpAny (MM w) A (storeName env x v) Q E ⟨h, g, d, t, os⟩ := by
  subst hL
  exact wpAny_storeName_local (m := m) hl S.ns (fun h' hn hs => q h' (S.set hn hs)) hp
theorem c_call {f : Value} {P : Heap → Prop} {e : Expr} {rest : List Expr} {s : Shared} {Q : Value → Shared → Prop} (hk : ∀ h, P h → ∃ k, (k = Keeper.frame ∨ k = Keeper.machine ∨ k = Keeper.boundFrame) ∧ Looks (MM w) h (keeperOf f) k)
    (h : wpAny (MM w) A (spliced (backTo pos (starEach (e :: rest) env))) (fun vs s₁ => P s₁.heap ∧ wpAny (MM w) A (call f vs) Q E s₁) E s)
    (he : starEach (e :: rest) env = (false, eval e env) :: starEach rest env := by rfl) (hplain : (backTo pos (starEach rest env)).any (·.1) = false := by rfl) :
    wpAny (MM w) A (callWith pos f [] (backTo pos (starEach (e :: rest) env)) []) Q E s := by
  rw [he] at h ⊢
  exact callWith_of (P := P) (by show ((false || (backTo pos (starEach rest env)).any (·.1)) || false) = false; rw [hplain]; rfl) hk (evalArgs_plain h)
theorem c_call0 {f : Value} {P : Heap → Prop} {s : Shared} {Q : Value → Shared → Prop} (hk : ∀ h, P h → ∃ k, (k = Keeper.frame ∨ k = Keeper.machine ∨ k = Keeper.boundFrame) ∧ Looks (MM w) h (keeperOf f) k)
    (hP : P s.heap) (h : wpAny (MM w) A (call f []) Q E s) : wpAny (MM w) A (callWith pos f [] (backTo pos (starEach [] env)) []) Q E s :=
  callWith_of (P := P) rfl hk (evalArgs_nil3 ⟨hP, h⟩)
/-- a function of the text's, made or written -/
noncomputable def IsFn (f : Addr) (h : Heap) : Prop := ∃ o fd, h.get? f = some o ∧ o.data = .func fd
theorem keeps_fn {f : Addr} (h : Heap) (P : IsFn f h) : ∃ k, (k = Keeper.frame ∨ k = Keeper.machine ∨ k = Keeper.boundFrame) ∧ Looks (MM w) h (keeperOf (.ref f)) k := by
  obtain ⟨o, fd, ho, hd⟩ := P
  refine ⟨.frame, .inl rfl, (Looks.ld (part := none) ho).andThen ?_⟩
  rw [hd]; exact .now
theorem keeps_blt {id : String} (h : Heap) (_ : True) : ∃ k, (k = Keeper.frame ∨ k = Keeper.machine ∨ k = Keeper.boundFrame) ∧ Looks (MM w) h (keeperOf (.builtin id)) k := ⟨.machine, .inr (.inl rfl), Looks.of_pure rfl⟩
theorem keeps_type {id : String} (h : Heap) (_ : True) : ∃ k, (k = Keeper.frame ∨ k = Keeper.machine ∨ k = Keeper.boundFrame) ∧ Looks (MM w) h (keeperOf (.type id)) k := ⟨.machine, .inr (.inl rfl), Looks.of_pure rfl⟩
theorem Gr.fn {h h' : Heap} {f : Addr} (G : Gr [] h h') (P : IsFn f h) : IsFn f h' := let ⟨o, fd, ho, hd⟩ := P; ⟨o, fd, G.all _ _ ho, hd⟩
theorem Sta.all (S : Sta [] h₀ L m ow h) : ∀ b o, h₀.get? b = some o → h.get? b = some o := fun b o e => S.gr.keep b o (by simp) e
end
/-- what a call hands back: a value of which P tells, over a heap that has grown -/
noncomputable def Back (ts : List Addr) (g : Array GenState) (d : Drawn) (os : OsState) (h : Heap) (P : Value → Heap → Prop) (v : Value) (s' : Shared) : Prop := ∃ h' t', s' = ⟨h', g, d, t', os⟩ ∧ Gr ts h h' ∧ P v h'
end Mine
end
section
open PySem PySem.W PySem.W.X PyProof.Rows PySem.Calls
set_option maxRecDepth 100000
namespace Mine
section
variable {w : World} {mg mb : Str → Option Value} {g : Array GenState} {d : Drawn} {os : OsState}
noncomputable abbrev iterObj (l : Addr) (i : Nat) : Obj := { cls := .type "list_iterator", data := .fields #[.ref l, .int i 0] }
theorem entry_iter9 : entryFor table "iter" = some Builtin.«iter» := entryFor_of_fast (by kernel_rfl)
theorem args_iter9 (a : Value) : argsOk "iter" ⟨[a], []⟩ := by unfold argsOk; kernel_rfl
theorem b_iter {A : Around} {E : Value → Shared → Prop} {Q : Value → Shared → Prop} {s : Shared} {l : Addr} {items : Array Value} (hl : s.heap.IsList l items)
    (q : Q (.ref s.heap.objs.size) { s with heap := s.heap.push (iterObj l 0) }) : wpAny (MM w) A (call (.builtin "iter") [.ref l]) Q E s := by
  refine call_function_entry (by decide +kernel) (by decide +kernel) entry_iter9 (args_iter9 _) ?_
  unfold Builtin.«iter»
  refine wpAny_bind (m := someArgs "iter" 1 2 _) (wpAny_of_eq (a := [Value.ref l]) (by first | rfl | kernel_rfl!) ?_)
  show wpAny _ _ (pyIter (.ref l) >>= _) _ _ _
  refine wpAny_bind (wpAny_pyIter_list hl ?_)
  exact wpAny_pure ⟨_, rfl, q⟩
theorem iter_is {h : Heap} {I l : Addr} {i : Nat} (e : h.get? I = some (iterObj l i)) : h.IsListIter I l i := ⟨_, e, rfl, rfl⟩
theorem list_all {h h' : Heap} {l : Addr} {items : Array Value} (x : h.IsList l items) (k : ∀ b o, h.get? b = some o → h'.get? b = some o) : h'.IsList l items := let ⟨o, ho, r⟩ := x; ⟨o, k _ _ ho, r⟩
set_option maxHeartbeats 4000000 in
theorem reduce_spec {A : Around} {E : Value → Shared → Prop} {f l : Addr} {vs : List Value} {v0 : Value} {h : Heap} {t : Nat}
    (hh : A.handled = none) (hdep : A.depth < recursionLimit) (W : Wd w mg mb h) (hl : h.IsList l vs.toArray) (hf : IsFn f h) (hv0 : (∃ n tk, v0 = .int n tk) ∨ (∃ a o, v0 = .ref a ∧ a ≠ 30 ∧ h.get? a = some o ∧ o.cls ≠ .type "tuple"))
    (Inv : Nat → Value → Facts → Prop) (fs0 : Facts) (i0 : Inv 0 v0 fs0) (hfs0 : Has fs0 h)
    (step : ∀ (A' : Around) (E' : Value → Shared → Prop) i x v fs h' t', A'.handled = none → A'.depth = A.depth + 1 → A'.units = A.units + 3 → vs[i]? = some x → Gr [] h h' → Inv i v fs → Has fs h' →
      wpAny (MM w) A' (call (.ref f) [v, x]) (Back [] g d os h' fun v' h'' => ∃ fs', Inv (i + 1) v' fs' ∧ Has fs' h'' ∧ (fs'.map (·.1)).Pairwise (· ≠ ·) ∧ ∀ p ∈ fs', h'.get? p.1 = none) E' ⟨h', g, d, t', os⟩) :
    wpAny (MM w) A (call (.ref 38) [.ref f, .ref l, v0]) (Back [] g d os h fun v h' => ∃ fs', Inv vs.length v fs' ∧ Has fs' h') E ⟨h, g, d, t, os⟩ := by
  refine wpAny_call (codeAny_call_def (binds := [("function", .ref f), ("sequence", .ref l), ("initial", v0)]) hdep (W.k 38 _ rfl) rfl W.lim (codeRec_of W.k rfl) rfl (binds_K W.k rfl rfl rfl rfl rfl) (by decide) (locs rfl) (fun h₁ hns hk => ?_))
  have S₁ := Sta.mk' (ts := []) (Gr.of hk) (size_none h) hns
  have W₁ := W.gr Tabs.nil S₁.gr
  refine wp_gen2 fun Qf Ef hQf => ?_
  refine wpAny_execs_cons (wp_gen fun Qs hQs => wpAny_Assign_Name (wpAny_Call_Name_kw (n_blt W₁ rfl rfl (c_call keeps_blt (wpAny_items_cons (n_loc S₁ rfl (wpAny_items_nil ⟨trivial, b_iter (list_all hl S₁.all) ?_⟩)))))))
  have S₂ := S₁.push (iterObj l 0) rfl
  generalize hI : h₁.objs.size = I at *
  have G₂ : Gr [] h₁ (h₁.push (iterObj l 0)) := Gr.push _ _ _
  generalize h₁.push (iterObj l 0) = h₂ at *
  refine s_loc S₂ fun h₃ S₃ => ?_
  refine hQs _ _ ?_
  try dsimp only
  have W₃ := W.gr Tabs.nil S₃.gr
  refine wpAny_execs_cons (wp_gen fun Qi hQi => wpAny_If (wpAny_isTrue_Compare1 (n_loc S₃ rfl (n_glob W₃ rfl ?_))))
  have isno : ∀ {A : Around} {E : Value → Shared → Prop} {Q : Value → Shared → Prop} {t : Nat}, Q (.bool false) ⟨h₃, g, d, t, os⟩ → wpAny (MM w) A (compareOp .Is v0 (.ref 30)) Q E ⟨h₃, g, d, t, os⟩ := by
    intro A E Q t q
    rcases hv0 with ⟨n, tk, rfl⟩ | ⟨a, o, rfl, h1, h2, h3⟩
    · exact wpAny_is_other rfl (by intro e; cases e) q
    · exact wpAny_is_ref_other h1 (S₃.all _ _ h2) (W₃.k 30 _ rfl) h3 q
  refine isno (wpAny_truthy_bool ?_)
  simp only [Bool.false_eq_true, if_false]
  refine wpAny_execs_cons (wpAny_Assign_Name (n_loc S₃ rfl (s_loc S₃ fun h₄ S₄ => ?_)))
  try dsimp only
  refine wpAny_execs_nil ?_
  refine hQi _ _ ?_
  try dsimp only
  have I4 := iter_is (S₄.own _ (.head _))
  refine wpAny_execs_cons (wp_gen fun Qr hQr => wpAny_For (n_loc S₄ rfl (wpAny_pyIter_listiter I4 ?_)))
  refine codeAny_forLoop_any (fun n s => ∃ i v fs m ow oI hc tc, s = ⟨hc, g, d, tc, os⟩ ∧ n = vs.length + 1 - i ∧ i ≤ vs.length ∧ Sta [] h h.objs.size m (ow ++ [(I, oI)]) hc ∧ hc.IsListIter I l i ∧
      m "function" = some (.ref f) ∧ m "value" = some v ∧ Inv i v fs ∧ ∀ p ∈ fs, p ∈ ow ∨ h.get? p.1 = some p.2) ?turn (vs.length + 1)
    ⟨0, v0, fs0, _, [], _, h₄, _, rfl, by omega, Nat.zero_le _, S₄, I4, rfl, rfl, i0, fun p hp => .inr (hfs0 p hp)⟩
  rintro n s ⟨i, v, fs, m, ow, oI, hc, tc, rfl, hn, hi, S, IT, mf, mv, iv, hfs⟩
  have hlc := list_all hl S.all
  by_cases hlt : i < vs.length
  · refine wpAny_pyNext_list_item (x := vs[i]) IT hlc (by simp [hlt]) fun hd' IT' sb => ?_
    obtain ⟨oI', hoI', rI⟩ := id IT'
    have S' := S.updLast sb hoI'
    try dsimp only
    refine wpAny_of_eq (a := ()) rfl ?_
    refine wpAny_assign_Name (s_loc S' fun he S'' => ?_)
    have hfs' : Has fs he := fun p hp => (hfs p hp).elim (fun q => S''.own p (List.mem_append_left _ q)) fun q => S''.all _ _ q
    try dsimp only
    refine wp_gen fun Qb hQb => ?_
    refine wpAny_execs_cons (wp_gen fun Qs hQs => wpAny_Assign_Name (wpAny_Call_Name_kw (n_loc S'' mf (c_call keeps_fn (wpAny_items_cons (n_loc S'' mv (wpAny_items_cons (n_loc S'' rfl (wpAny_items_nil ⟨S''.gr.fn hf, ?_⟩)))))))))
    refine wpAny_mono (step _ _ i vs[i] v fs he _ hh rfl rfl (by simp [hlt]) S''.gr iv hfs') ?_ (fun _ _ e => e)
    rintro v' s' ⟨hf', t', rfl, G', fs', iv', hfs2, hord, hge⟩
    have S3 := (S''.adds G' hge hfs2 hord).drop (ow' := fs' ++ [(I, oI')]) (List.Sublist.append_left (List.sublist_append_right _ _) _)
    refine s_loc S3 fun hg S4 => hQs _ _ ?_
    try dsimp only
    refine wpAny_execs_nil ?_
    refine hQb _ _ ?_
    refine ⟨n - 1, by omega, i + 1, v', fs', _, fs', oI', hg, _, rfl, by omega, hlt, S4, ⟨oI', S4.own (I, oI') (List.mem_append_right _ (.head _)), rI⟩, mf, rfl, iv', fun p hp => .inl hp⟩
  · have hin : i = vs.length := by omega
    subst hin
    refine wpAny_pyNext_list_end hh IT hlc (by simp) fun hd' ex => ?_
    have S' := S.extLast ex
    try dsimp only
    refine wpAny_execs_nil ?_
    refine hQr _ _ ?_
    try dsimp only
    refine wpAny_execs_cons (wpAny_Return_some (n_loc S' mv ?_))
    try dsimp only
    refine hQf _ _ ?_
    exact ⟨hd', _, rfl, S'.gr, fs, iv, fun p hp => (hfs p hp).elim (fun q => S'.own p q) fun q => S'.all _ _ q⟩
end
end Mine
end
section
open PySem PySem.W PySem.W.X PyProof.Rows PySem.Calls
set_option maxRecDepth 100000
namespace Mine
/-- the room that every call here has -/
noncomputable def AX : Around := { handled := none, depth := 400, frames := none, guards := none, units := 1000 }
structure Room (A : Around) : Prop where
  h : A.handled = none
  d : A.depth ≤ 400
  u : A.units ≤ 1000
theorem of_AX {α : Type} {M : Model} {A : Around} {tr : Sem α} {Q : α → Shared → Prop} {E : Value → Shared → Prop} {s : Shared} (R : Room A) (x : wpAny M AX tr Q E s) : wpAny M A tr Q E s :=
  fun Γ p hΓ => x Γ p ⟨hΓ.1.trans R.h, Nat.le_trans hΓ.2.1 R.d, (fun _ hl => nomatch hl), (fun _ hg => nomatch hg), Nat.le_trans hΓ.2.2.2.2 R.u⟩
theorem mem_gr {h h' : Heap} {news : Facts} (D : Mem h h' [] news) : Gr [] h h' := ⟨fun b o _ e => D.keep b o e (by simp [away])⟩
noncomputable def sg3 (x y : Int) : Int := (if x > y then 1 else 0) - (if x < y then 1 else 0)
theorem cond_yes {p : Prop} (i : Decidable p) (h : p) (a b : Int) : condFn Int (@decide p i) a b = a := by rw [decide_eq_true h]; rfl
theorem cond_no {p : Prop} (i : Decidable p) (h : ¬ p) (a b : Int) : condFn Int (@decide p i) a b = b := by rw [decide_eq_false h]; rfl
theorem sg3_is (x y : Int) (i1 : Decidable (x > y)) (i2 : Decidable (x < y)) : condFn Int (@decide (x > y) i1) 1 0 - condFn Int (@decide (x < y) i2) 1 0 = sg3 x y := by
  unfold sg3
  by_cases h1 : x > y
  · rw [cond_yes i1 h1, cond_no i2 (by omega), if_pos h1, if_neg (by omega)]
  · by_cases h2 : x < y
    · rw [cond_no i1 h1, cond_yes i2 h2, if_neg h1, if_pos h2]
    · rw [cond_no i1 h1, cond_no i2 h2, if_neg h1, if_neg h2]
theorem sg3_b (x y : Int) : b2i (decide (y < x)) - b2i (decide (x < y)) = sg3 x y := by
  unfold sg3
  by_cases h1 : x > y
  · rw [decide_eq_true (show y < x from h1), decide_eq_false (show ¬ x < y by omega), if_pos h1, if_neg (by omega)]; rfl
  · by_cases h2 : x < y
    · rw [decide_eq_false (show ¬ y < x from h1), decide_eq_true h2, if_neg h1, if_pos h2]; rfl
    · rw [decide_eq_false (show ¬ y < x from h1), decide_eq_false h2, if_neg h1, if_neg h2]; rfl
section
variable {w : World} {mg mb : Str → Option Value} {g : Array GenState} {d : Drawn} {os : OsState}
theorem three_spec {A : Around} {E : Value → Shared → Prop} {x y : Int} {t1 t2 : Tok} {h : Heap} {t : Nat} (R : Room A) (W : Wd w mg mb h) :
    wpAny (MM w) A (call (.ref 45) [.int x t1, .int y t2]) (Back [] g d os h fun v _ => ∃ tk, v = .int (sg3 x y) tk) E ⟨h, g, d, t, os⟩ := by
  refine wpAny_call (codeAny_call_def (binds := [("x", .int x t1), ("y", .int y t2)]) (by have := R.d; show A.depth < 1000; omega) (W.k 45 _ rfl) rfl W.lim (codeRec_of W.k rfl) rfl (BindsTo.of_eq rfl) (by decide) (locs rfl) (fun h₁ hns hk => ?_))
  have S₁ := Sta.mk' (ts := []) (Gr.of hk) (size_none h) hns
  refine wpAny_execs_cons (wpAny_Return_some (wpAny_BinOp (wpAny_Compare1 (n_loc S₁ rfl (n_loc S₁ rfl (PyProof.Rows.gt_int ?_))))))
  refine wpAny_Compare1 (n_loc S₁ rfl (n_loc S₁ rfl (PyProof.Rows.lt_int (sub_bool ?_))))
  rw [sg3_b]
  exact ⟨h₁, _, rfl, S₁.gr, _, rfl⟩
end
end Mine
end
section
open PySem PySem.W PySem.W.X PyProof.Rows PySem.Calls
set_option maxRecDepth 100000
namespace Mine
noncomputable abbrev lst (vs : List Value) (n : Nat) : Obj := { cls := .type "list", data := .seq vs.toArray n }
theorem lst_is {h : Heap} {a : Addr} {vs : List Value} {n : Nat} (e : h.get? a = some (lst vs n)) : h.IsList a vs.toArray := ⟨_, e, rfl, n, rfl⟩
section
variable {w : World} {mg mb : Str → Option Value} {A : Around} {E : Value → Shared → Prop} {ts : List Addr} {h₀ h : Heap} {L : Addr} {m : Str → Option Value} {ow : Facts} {g : Array GenState} {d : Drawn} {t : Nat} {os : OsState} {env : Env} {x : Str} {v : Value} {pos : Pos}
theorem item_list {value slice : Expr} {s : Shared} {l : Addr} {items : Array Value} {k : Int} {u : Tok} {Q : Value → Shared → Prop} (hl : s.heap.IsList l items) (h0 : 0 ≤ k) (hhi : k < 2 ^ 63) (hx : items[k.toNat]? = some v) (q : Q v s)
    (hs : subscripted slice false (.ref l) (.int k u) = operate [.ref l, .int k u] (getItem (.ref l) (.int k u)) := by with_unfolding_all rfl) :
    wpAny (MM w) A (subscriptTail value slice (.ref l) (.int k u)) Q E s := tail_any hl.typeIs slot_list_getitem.lookup (wpAny_getItem_list hl h0 hhi hx q) hs
end
/-- room for a call of depth n, with u units of C's stack -/
structure RoomN (n u : Nat) (A : Around) : Prop where
  h : A.handled = none
  d : A.depth + n ≤ 400
  u : A.units + u ≤ 1000
theorem RoomN.room {n u : Nat} {A : Around} (R : RoomN n u A) : Room A := ⟨R.h, by have := R.d; omega, by have := R.u; omega⟩
theorem RoomN.lim {n u : Nat} {A : Around} (R : RoomN n u A) : A.depth < recursionLimit := by have := R.d; show A.depth < 1000; omega
theorem RoomN.deep {n u : Nat} {A : Around} {env : Env} (R : RoomN (n + 1) (u + 3) A) : RoomN n u (A.deeper env) := ⟨R.h, by have := R.d; show A.depth + 1 + n ≤ 400; omega, by have := R.u; show A.units + 3 + u ≤ 1000; omega⟩
theorem RoomN.in1 {n u : Nat} {A : Around} (R : RoomN n (u + 1) A) : RoomN n u A.in1 := ⟨R.h, R.d, by have := R.u; show A.units + 1 + u ≤ 1000; omega⟩
theorem RoomN.le {n u n' u' : Nat} {A : Around} (R : RoomN n u A) (hn : n' ≤ n) (hu : u' ≤ u) : RoomN n' u' A := ⟨R.h, by have := R.d; omega, by have := R.u; omega⟩
section
variable {w : World} {mg mb : Str → Option Value} {g : Array GenState} {d : Drawn} {os : OsState}
theorem sg3_zero (x y : Int) : (sg3 x y == 0) = decide (x = y) := by
  unfold sg3
  rw [Bool.eq_iff_iff, beq_iff_eq, decide_eq_true_eq]
  by_cases h1 : x > y
  · rw [if_pos h1, if_neg (by omega)]; omega
  · by_cases h2 : x < y
    · rw [if_neg h1, if_pos h2]; omega
    · rw [if_neg h1, if_neg h2]; omega
/-- the list that the run hands on -/
noncomputable def RunList (t3 : Int × Int × Int) (v : Value) (fs : Facts) : Prop := ∃ a k t1 t2 t3', v = .ref a ∧ fs = [(a, lst [.int t3.1 t1, .int t3.2.1 t2, .int t3.2.2 t3'] k)]
set_option maxHeartbeats 4000000 in
theorem run_spec {A : Around} {E : Value → Shared → Prop} {a : Addr} {k : Nat} {p : Int × Int × Int} {t1 t2 t3 tn : Tok} {n : Int} {h : Heap} {t : Nat}
    (R : RoomN 2 20 A) (W : Wd w mg mb h) (hl : h.get? a = some (lst [.int p.1 t1, .int p.2.1 t2, .int p.2.2 t3] k)) :
    wpAny (MM w) A (call (.ref 74) [.ref a, .int n tn]) (Back [] g d os h fun v h' => ∃ fs, (∃ a' k' u1 u2 u3, v = .ref a' ∧ fs = [(a', lst [.int n u1, .int (if p.1 = n then p.2.1 + 1 else 1) u2, .int (max p.2.2 (if p.1 = n then p.2.1 + 1 else 1)) u3] k')]) ∧ Has fs h' ∧ (fs.map (·.1)).Pairwise (· ≠ ·) ∧ ∀ q ∈ fs, h.get? q.1 = none) E ⟨h, g, d, t, os⟩ := by
  refine wpAny_call (codeAny_call_def (binds := [("told", .ref a), ("number", .int n tn)]) R.lim (W.k 74 _ rfl) rfl W.lim (codeRec_of W.k rfl) rfl (BindsTo.of_eq rfl) (by decide) (locs rfl) (fun h₁ hns hk => ?_))
  have S₁ := Sta.mk' (ts := []) (Gr.of hk) (size_none h) hns
  have W₁ := W.gr Tabs.nil S₁.gr
  have L₁ := lst_is (S₁.all _ _ hl)
  refine wpAny_execs_cons (wpAny_Assign_Name (wpAny_mono (Q := fun v s' => ∃ h₂ ur tr, v = .int (if p.1 = n then p.2.1 + 1 else 1) ur ∧ s' = ⟨h₂, g, d, tr, os⟩ ∧ Gr [] h₁ h₂) ?ife ?rest (fun _ _ e => e)))
  case ife =>
    refine wpAny_IfExp (wpAny_isTrue_Compare1 (wpAny_Call_Name_kw (n_glob W₁ rfl (c_call keeps_fn (wpAny_items_cons (Subscript_ (n_loc S₁ rfl (wpAny_Constant_int (item_list (k := 0) L₁ (by decide) (by decide) rfl (wpAny_items_cons (n_loc S₁ rfl (wpAny_items_nil ⟨⟨_, _, W₁.k 45 _ rfl, rfl⟩, ?_⟩))))))))))))
    refine wpAny_mono (three_spec (RoomN.room (n := 1) (u := 17) R.deep) W₁) ?_ (fun _ _ e => e)
    rintro v s' ⟨h₂, t', rfl, G₂, tk, rfl⟩
    have S₂ := S₁.grow G₂
    have L₂ := lst_is (S₂.all _ _ hl)
    refine wpAny_Constant_int (eq_int (wpAny_truthy_bool ?_))
    rw [sg3_zero]
    by_cases hc : p.1 = n
    · rw [decide_eq_true hc, if_pos hc]
      simp only [if_true]
      exact wpAny_BinOp (Subscript_ (n_loc S₂ rfl (wpAny_Constant_int (item_list (k := 1) L₂ (by decide) (by decide) rfl (wpAny_Constant_int (add_int ⟨h₂, _, _, rfl, rfl, G₂⟩))))))
    · rw [decide_eq_false hc, if_neg hc]
      simp only [Bool.false_eq_true, if_false]
      exact wpAny_Constant_int ⟨h₂, _, _, rfl, rfl, G₂⟩
  rintro v s' ⟨h₂, ur, tr, rfl, rfl, G₂⟩
  generalize (if p.1 = n then p.2.1 + 1 else 1) = r
  have S₂ := S₁.grow G₂
  refine s_loc S₂ fun h₃ S₃ => ?_
  have W₃ := W.gr Tabs.nil S₃.gr
  have L₃ := lst_is (S₃.all _ _ hl)
  refine wpAny_execs_cons ?_
  refine wpAny_Return_some ?_
  refine wpAny_List ?_
  refine wpAny_items_cons ?_
  refine n_loc S₃ rfl ?_
  refine wpAny_items_cons ?_
  refine n_loc S₃ rfl ?_
  refine wpAny_items_cons ?_
  refine wpAny_Call_Name_kw ?_
  refine n_blt W₃ rfl rfl ?_
  refine c_call keeps_blt ?_
  refine wpAny_items_cons ?_
  refine Subscript_ ?_
  refine n_loc S₃ rfl ?_
  refine wpAny_Constant_int ?_
  refine item_list (k := 2) L₃ (by decide) (by decide) rfl ?_
  refine wpAny_items_cons ?_
  refine n_loc S₃ rfl ?_
  refine wpAny_items_nil ⟨trivial, ?_⟩
  refine max_two_ints R.h fun h₄ tk hk₄ => ?_
  refine wpAny_items_nil ⟨by show 3 ≤ sizeLine; decide, ?_⟩
  have S₄ := S₃.grow (Gr.of hk₄)
  have S₅ := S₄.push (lst [.int n tn, .int r ur, (if r > p.2.2 then .int r ur else .int p.2.2 t3)] 0) rfl
  refine ⟨_, _, rfl, S₅.gr, [(h₄.objs.size, lst [.int n tn, .int r ur, .int (max p.2.2 r) (if r > p.2.2 then ur else t3)] 0)], ⟨_, 0, _, _, _, rfl, rfl⟩, fun q hq => ?_, List.pairwise_singleton _ _, fun q hq => ?_⟩
  · rw [List.mem_singleton.mp hq]
    have e := S₅.own _ (.head _)
    have : (if r > p.2.2 then Value.int r ur else Value.int p.2.2 t3) = Value.int (max p.2.2 r) (if r > p.2.2 then ur else t3) := by
      by_cases c : r > p.2.2
      · rw [if_pos c, if_pos c, Int.max_eq_right (by omega)]
      · rw [if_neg c, if_neg c, Int.max_eq_left (by omega)]
    rw [← this]
    exact e
  · rw [List.mem_singleton.mp hq]
    exact (S₅.gt _ (.head _)).2
end
end Mine
end
section
open PySem PySem.W PySem.W.X PyProof.Rows PySem.Calls
set_option maxRecDepth 100000
namespace Mine
/-- what a comprehension has made out of its first n items -/
inductive Made (P : Nat → Value → Prop) (El : Nat → Value → Value → Facts → Prop) (No : Nat → Value → Prop) : Nat → List Value → Facts → Prop
  | nil : Made P El No 0 [] []
  | yes {i : Nat} {v y : Value} {ys : List Value} {fs f : Facts} : Made P El No i ys fs → P i v → El i v y f → Made P El No (i + 1) (ys ++ [y]) (f ++ fs)
  | no {i : Nat} {v : Value} {ys : List Value} {fs : Facts} : Made P El No i ys fs → P i v → No i v → Made P El No (i + 1) ys fs
theorem Made.len {P : Nat → Value → Prop} {El : Nat → Value → Value → Facts → Prop} {No : Nat → Value → Prop} {n : Nat} {ys : List Value} {fs : Facts} (h : Made P El No n ys fs) : ys.length ≤ n := by
  induction h with
  | nil => exact Nat.le_refl _
  | yes _ _ _ ih => rw [List.length_append, List.length_singleton]; omega
  | no _ _ _ ih => omega
section
variable {w : World} {g : Array GenState} {d : Drawn} {os : OsState}
/-- an iterator at I: n items, of the i-th P tells; St tells its object before the i-th; it reads what dep tells -/
structure Itr (w : World) (g : Array GenState) (d : Drawn) (os : OsState) (A : Around) (I n : Nat) (P : Nat → Value → Prop) (St : Nat → Obj → Prop) (dep : Heap → Prop) : Prop where
  item : ∀ i h o t (Q : Option Value → Shared → Prop) (E : Value → Shared → Prop), i < n → dep h → h.get? I = some o → St i o →
    (∀ v h' o' t', P i v → h'.get? I = some o' → St (i + 1) o' → Heap.SameBut I h h' → Q (some v) ⟨h', g, d, t', os⟩) → wpAny (MM w) A (pyNext (.ref I)) Q E ⟨h, g, d, t, os⟩
  done : ∀ h o t (Q : Option Value → Shared → Prop) (E : Value → Shared → Prop), dep h → h.get? I = some o → St n o → (∀ h' t', Heap.ExtBut I h h' → Q none ⟨h', g, d, t', os⟩) → wpAny (MM w) A (pyNext (.ref I)) Q E ⟨h, g, d, t, os⟩
  self : ∀ i h o t (Q : Value → Shared → Prop) (E : Value → Shared → Prop), h.get? I = some o → St i o → Q (.ref I) ⟨h, g, d, t, os⟩ → wpAny (MM w) A (pyIter (.ref I)) Q E ⟨h, g, d, t, os⟩
theorem Itr.list {A : Around} (hh : A.handled = none) (I l : Addr) (vs : List Value) :
    Itr w g d os A I vs.length (fun i v => vs[i]? = some v) (fun i o => o.cls = .type "list_iterator" ∧ o.data = .fields #[.ref l, .int i 0]) (fun h => h.IsList l vs.toArray) where
  item := fun i h o t Q E hi hd ho st q => by
    refine wpAny_pyNext_list_item (x := vs[i]) ⟨o, ho, st⟩ hd (by simp [hi]) fun h' it sb => ?_
    obtain ⟨o', ho', st'⟩ := it
    exact q _ h' o' _ (by simp [hi]) ho' st' sb
  done := fun h o t Q E hd ho st q => wpAny_pyNext_list_end hh ⟨o, ho, st⟩ hd (by simp) fun h' ex => q h' _ ex
  self := fun i h o t Q E ho st q => wpAny_pyIter_listiter ⟨o, ho, st⟩ q
noncomputable abbrev testsOf (ifs : List Expr) (env : Env) : Sem Bool := forIn ifs true fun c r => if r = true then do let ok ← isTrue c env (eval c env); pure (ForInStep.yield ok) else pure (ForInStep.yield r)
set_option maxHeartbeats 1000000 in
theorem comp_loop {A : Around} {R : Result → Shared → Prop} {hb h : Heap} {C D I n : Nat} {t : Nat} {P : Nat → Value → Prop} {St : Nat → Obj → Prop} {dep : Heap → Prop} {El : Nat → Value → Value → Facts → Prop} {No : Nat → Value → Prop}
    {elt iter : Expr} {x : Str} {px : Pos} {ifs : List Expr} {scope : Scope} {pos : Pos} {cenv : Env} {m : Str → Option Value} {o : Obj}
    (T : Itr w g d os A I n P St dep) (hdep : ∀ h, Gr [] hb h → dep h) (hn : n ≤ 1000) (S : Sta [] hb C m [(D, lst [] 0), (I, o)] h) (st : St 0 o)
    (hC : cenv.locals = C) (hx : cenv.kindOf x = some .local) (hp : (cenv.scope.kind == .class || (cenv.scope.kind == .module && cenv.locals != cenv.globals)) = false)
    (turn : ∀ i v m ow h t (E : Value → Shared → Prop), i < n → P i v → Sta [] hb C m ow h → m x = some v →
      wpAny (MM w) A (testsOf ifs cenv) (fun ok s' => ∃ h' t', s' = ⟨h', g, d, t', os⟩ ∧ Gr [] h h' ∧ (if ok = true then wpAny (MM w) A (eval elt cenv)
        (fun y s'' => ∃ h'' t'' f, s'' = ⟨h'', g, d, t'', os⟩ ∧ Gr [] h' h'' ∧ El i v y f ∧ Has f h'' ∧ (f.map (·.1)).Pairwise (· ≠ ·) ∧ ∀ p ∈ f, h'.get? p.1 = none) E s' else No i v)) E ⟨h, g, d, t, os⟩)
    (fin : ∀ h' t' m' ys fs k, Made P El No n ys fs → Sta [] hb C m' (fs ++ [(D, lst ys k)]) h' → R (.ok .next) ⟨h', g, d, t', os⟩) :
    codeAny (MM w) A (.compStart (.ListComp elt [⟨.Name x px, iter, ifs, 0⟩] scope pos) 0 (.ref I) (.ref D) cenv) R ⟨h, g, d, t, os⟩ := by
  have loop : ∀ t, codeAny (MM w) A (.compLoop (.ListComp elt [⟨.Name x px, iter, ifs, 0⟩] scope pos) 0 (.ref I) (.ref D) cenv) R ⟨h, g, d, t, os⟩ := by
    intro t
    refine codeAny_compLoop_tests (fun j s => ∃ i m ys fs k o hc tc, s = ⟨hc, g, d, tc, os⟩ ∧ j = n + 1 - i ∧ i ≤ n ∧ Made P El No i ys fs ∧ Sta [] hb C m (fs ++ [(D, lst ys k), (I, o)]) hc ∧ St i o) ?_ (n + 1)
      ⟨0, m, [], [], 0, o, h, t, rfl, by omega, Nat.zero_le _, .nil, S, st⟩
    rintro j s ⟨i, m, ys, fs, k, o, hc, tc, rfl, hj, hi, md, S, st⟩
    have hI : hc.get? I = some o := S.own (I, o) (by simp)
    have iI : (fs ++ [(D, lst ys k), (I, o)])[fs.length + 1]? = some (I, o) := by simp
    by_cases hlt : i < n
    · refine T.item i hc o tc _ _ hlt (hdep _ S.gr) hI st fun v h₁ o₁ t₁ pv ho₁ st₁ sb => ?_
      have S₁ := S.upd (fs.length + 1) iI sb ho₁
      have e₁ : (fs ++ [(D, lst ys k), (I, o)]).set (fs.length + 1) (I, o₁) = fs ++ [(D, lst ys k), (I, o₁)] := by simp
      rw [e₁] at S₁
      dsimp only
      refine wpAny_assign_Name (s_loc S₁ (fun h₂ S₂ => ?_) hC hx hp)
      refine wpAny_mono (turn i v _ _ h₂ _ _ hlt pv S₂ (by simp)) ?_ (fun _ _ e => e)
      rintro ok s' ⟨h₃, t₃, rfl, G₃, q⟩
      have S₃ := S₂.grow G₃
      cases ok with
      | false =>
        simp only [Bool.false_eq_true, if_false] at q ⊢
        exact ⟨n + 1 - (i + 1), by omega, i + 1, _, ys, fs, k, o₁, h₃, t₃, rfl, rfl, hlt, md.no pv q, S₃, st₁⟩
      | true =>
        simp only [if_true] at q ⊢
        refine wpAny_mono q ?_ (fun _ _ e => e)
        rintro y s'' ⟨h₄, t₄, f, rfl, G₄, el, hf, hpw, hfr⟩
        have S₄ := S₃.adds G₄ hfr hf hpw
        have hD : h₄.PlainList D ys.toArray := ⟨k, S₄.own (D, lst ys k) (by simp)⟩
        have hlen := md.len
        refine wpAny_list_append_plain hD (fun h₅ pl sb₅ => ?_) (by rw [List.size_toArray, sizeLine_eq]; omega)
        obtain ⟨k', ho₅⟩ := pl
        have iD : (f ++ (fs ++ [(D, lst ys k), (I, o₁)]))[(f ++ fs).length]? = some (D, lst ys k) := by
          rw [← List.append_assoc]; simp
        have ho₅' : h₅.get? D = some (lst (ys ++ [y]) k') := by rw [ho₅]; simp
        have S₅ := S₄.upd (f ++ fs).length iD sb₅ ho₅'
        have e₅ : (f ++ (fs ++ [(D, lst ys k), (I, o₁)])).set (f ++ fs).length (D, lst (ys ++ [y]) k') = (f ++ fs) ++ [(D, lst (ys ++ [y]) k'), (I, o₁)] := by
          rw [← List.append_assoc]; simp
        rw [e₅] at S₅
        exact ⟨n + 1 - (i + 1), by omega, i + 1, _, ys ++ [y], f ++ fs, k', o₁, h₅, t₄, rfl, rfl, hlt, md.yes pv el, S₅, st₁⟩
    · have hin : i = n := by omega
      subst hin
      refine T.done hc o tc _ _ (hdep _ S.gr) hI st fun h₁ t₁ ex => ?_
      have S₁ := S.ext (fs.length + 1) iI ex
      have e₁ : (fs ++ [(D, lst ys k), (I, o)]).eraseIdx (fs.length + 1) = fs ++ [(D, lst ys k)] := by
        rw [List.eraseIdx_append_of_length_le (by omega)]; simp
      rw [e₁] at S₁
      exact fin h₁ t₁ m ys fs k md S₁
  exact codeAny_compStart_list (loop _) (T.self 0 h o t _ _ (S.own (I, o) (by simp)) st (loop _))
end
end Mine
end
section
open PySem PySem.W PySem.W.X PyProof.Rows PySem.Calls
set_option maxRecDepth 100000
namespace Mine
section
variable {w : World} {g : Array GenState} {d : Drawn} {os : OsState}
set_option maxHeartbeats 1000000 in
theorem comp_block {A : Around} {E : Value → Shared → Prop} {RR : Value → Addr → Result → Shared → Prop} {hb h : Heap} {I n : Nat} {t : Nat} {P : Nat → Value → Prop} {St : Nat → Obj → Prop} {dep : Heap → Prop} {El : Nat → Value → Value → Facts → Prop} {No : Nat → Value → Prop}
    {elt iter : Expr} {x : Str} {px : Pos} {ifs : List Expr} {scope : Scope} {cl : List (Str × Addr)} {pos : Pos} {env : Env} {o : Obj}
    (T : Itr w g d os A I n P St dep) (hdep : ∀ h, Gr [] hb h → dep h) (hn : n ≤ 1000) (G : Gr [] hb h) (nI : hb.get? I = none) (hI : h.get? I = some o) (st : St 0 o)
    (turn : ∀ C i v m ow h t (E : Value → Shared → Prop), hb.get? C = none → i < n → P i v → Sta [] hb C m ow h → m x = some v →
      wpAny (MM w) A (testsOf ifs (compEnvC scope cl C env)) (fun ok s' => ∃ h' t', s' = ⟨h', g, d, t', os⟩ ∧ Gr [] h h' ∧ (if ok = true then wpAny (MM w) A (eval elt (compEnvC scope cl C env))
        (fun y s'' => ∃ h'' t'' f, s'' = ⟨h'', g, d, t'', os⟩ ∧ Gr [] h' h'' ∧ El i v y f ∧ Has f h'' ∧ (f.map (·.1)).Pairwise (· ≠ ·) ∧ ∀ p ∈ f, h'.get? p.1 = none) E s' else No i v)) E ⟨h, g, d, t, os⟩)
    (fin : ∀ C D h' t' m' ys fs k, Made P El No n ys fs → Sta [] hb C m' (fs ++ [(D, lst ys k)]) h' → RR (.ref D) C (.ok .next) ⟨h', g, d, t', os⟩)
    (hcell : ∀ y ∈ scope.names, y.2 ≠ .cell) (hkind : scope.kind = .function) (hx : scope.names.lookup x = some .local) :
    wpAny (MM w) A (newList []) (fun acc s₃ => wpAny (MM w) A (newFunctionEnv scope env.globals cl [] env.qual none .none (some env)) (fun cenv s₄ =>
      codeAny (MM w) A (.compStart (.ListComp elt [⟨.Name x px, iter, ifs, 0⟩] scope pos) 0 (.ref I) acc { cenv with scope := relabel scope env }) (RR acc cenv.locals) s₄) E s₃) E ⟨h, g, d, t, os⟩ := by
  refine wpAny_newObj_type (wpAny_newFunctionEnv hcell (by intro y hy; simp at hy) (fun h₁ hns₁ hsb₁ => ?_) hkind)
  have hD : (h.push { cls := .type "list", data := .seq ([] : List Value).toArray }).get? h.objs.size = some (lst [] 0) := Heap.get?_push_size _ rfl
  have GD : Gr [] h (h.push { cls := .type "list", data := .seq ([] : List Value).toArray }) := Gr.push _ _ _
  dsimp only at hns₁ hsb₁ ⊢
  generalize h.push { cls := .type "list", data := .seq ([] : List Value).toArray } = h₂ at *
  have G₁ : Gr [] h₂ h₁ := ⟨fun b o _ e => (hsb₁.2 b (fun q => by rw [q, size_none] at e; cases e)).trans (Heap.get?_push_of_some _ e)⟩
  have nD : hb.get? h.objs.size = none := by
    cases e : hb.get? h.objs.size with
    | none => rfl
    | some x => have := G.all _ _ e; rw [size_none] at this; cases this
  have nC : hb.get? h₂.objs.size = none := by
    cases e : hb.get? h₂.objs.size with
    | none => rfl
    | some x => have := GD.all _ _ (G.all _ _ e); rw [size_none] at this; cases this
  have S : Sta [] hb h₂.objs.size (fun x => List.lookup x ([] : List (Str × Value)).reverse) [(h.objs.size, lst [] 0), (I, o)] h₁ := by
    refine ⟨(G.trans GD).trans G₁, nC, hns₁, fun p hp => ?_, fun p hp => ?_, ?_⟩
    · rcases List.mem_cons.mp hp with rfl | hp
      · exact G₁.all _ _ hD
      · rw [List.mem_singleton.mp hp]; exact G₁.all _ _ (GD.all _ _ hI)
    · rcases List.mem_cons.mp hp with rfl | hp
      · exact ⟨none_ne (size_none h₂) hD, nD⟩
      · rw [List.mem_singleton.mp hp]; exact ⟨none_ne (size_none h₂) (GD.all _ _ hI), nI⟩
    · refine List.Pairwise.cons (fun b hb' => ?_) (List.pairwise_singleton _ _)
      have : b = I := by simpa using hb'
      rw [this]; exact (none_ne (size_none h) hI).symm
  exact comp_loop T hdep hn S st rfl (lookup_relabel_local hx) (by show (scope.kind == .class || (scope.kind == .module && _)) = false; rw [hkind]; rfl) (fun i v m ow h t E hi pv S hm => turn _ i v m ow h t E nC hi pv S hm) fun h' t' m' ys fs k md S => fin _ _ h' t' m' ys fs k md S
/-- a comprehension as a value -/
theorem comp_eval {A : Around} {E : Value → Shared → Prop} {Q : Value → Shared → Prop} {hb h : Heap} {I n : Nat} {t : Nat} {P : Nat → Value → Prop} {St : Nat → Obj → Prop} {dep : Heap → Prop} {El : Nat → Value → Value → Facts → Prop} {No : Nat → Value → Prop}
    {elt iter : Expr} {x : Str} {px : Pos} {ifs : List Expr} {scope : Scope} {cl : List (Str × Addr)} {pos : Pos} {env : Env} {o : Obj}
    (T : Itr w g d os A I n P St dep) (hdep : ∀ h, Gr [] hb h → dep h) (hn : n ≤ 1000) (G : Gr [] hb h) (nI : hb.get? I = none) (hI : h.get? I = some o) (st : St 0 o)
    (turn : ∀ C i v m ow h t (E : Value → Shared → Prop), hb.get? C = none → i < n → P i v → Sta [] hb C m ow h → m x = some v →
      wpAny (MM w) A (testsOf ifs (compEnvC scope cl C env)) (fun ok s' => ∃ h' t', s' = ⟨h', g, d, t', os⟩ ∧ Gr [] h h' ∧ (if ok = true then wpAny (MM w) A (eval elt (compEnvC scope cl C env))
        (fun y s'' => ∃ h'' t'' f, s'' = ⟨h'', g, d, t'', os⟩ ∧ Gr [] h' h'' ∧ El i v y f ∧ Has f h'' ∧ (f.map (·.1)).Pairwise (· ≠ ·) ∧ ∀ p ∈ f, h'.get? p.1 = none) E s' else No i v)) E ⟨h, g, d, t, os⟩)
    (fin : ∀ D h' t' ys fs k, Made P El No n ys fs → Gr [] hb h' → Has (fs ++ [(D, lst ys k)]) h' → (∀ p ∈ fs ++ [(D, lst ys k)], hb.get? p.1 = none) → ((fs ++ [(D, lst ys k)]).map (·.1)).Pairwise (· ≠ ·) → Q (.ref D) ⟨h', g, d, t', os⟩)
    (hcell : ∀ y ∈ scope.names, y.2 ≠ .cell) (hkind : scope.kind = .function) (hx : scope.names.lookup x = some .local) :
    wpAny (MM w) A (newList []) (fun acc s₃ => wpAny (MM w) A (newFunctionEnv scope env.globals cl [] env.qual none .none (some env)) (fun cenv s₄ =>
      codeAny (MM w) A (.compStart (.ListComp elt [⟨.Name x px, iter, ifs, 0⟩] scope pos) 0 (.ref I) acc { cenv with scope := relabel scope env }) (compPost (MM w) A E none Q acc cenv.locals) s₄) E s₃) E ⟨h, g, d, t, os⟩ := by
  refine comp_block (RR := compPost (MM w) A E none Q) T hdep hn G nI hI st turn (fun C D h' t' m' ys fs k md S => ?_) hcell hkind hx
  refine ⟨m', S.ns, fun h'' sb => ?_⟩
  refine fin D h'' _ ys fs k md ⟨fun b o n e => (sb.2 b (none_ne S.lo e)).trans (S.gr.keep b o n e)⟩ (fun p hp => (sb.2 p.1 (S.gt p hp).1).trans (S.own p hp)) (fun p hp => (S.gt p hp).2) S.ord
end
end Mine
end
section
open PySem PySem.W PySem.W.X PyProof.Rows PySem.Calls
set_option maxRecDepth 100000
namespace Mine
section
variable {w : World} {mg mb : Str → Option Value} {A : Around} {E : Value → Shared → Prop} {ts : List Addr} {h₀ h : Heap} {L : Addr} {m cm : Str → Option Value} {ow : Facts} {g : Array GenState} {d : Drawn} {t : Nat} {os : OsState} {env : Env} {x : Str} {v : Value} {pos : Pos} {c : Addr} {oc : Obj}
theorem Sta.perm {ow' : Facts} (S : Sta ts h₀ L m ow h) (hp : ow.Perm ow') : Sta ts h₀ L m ow' h :=
  ⟨S.gr, S.lo, S.ns, fun p h => S.own p (hp.mem_iff.mpr h), fun p h => S.gt p (hp.mem_iff.mpr h), ((hp.map _).pairwise_iff (fun {_ _} => Ne.symm)).mp S.ord⟩
theorem Sta.toEnd {p : Addr × Obj} (S : Sta ts h₀ L m (p :: ow) h) : Sta ts h₀ L m (ow ++ [p]) h := S.perm (List.perm_append_singleton p ow).symm
theorem n_cell {Q : Value → Shared → Prop} (e : h.get? c = some oc) (hd : oc.data = .cell (some v)) (q : Q v ⟨h, g, d, t, os⟩) (hc : env.cells.lookup x = some c := by rfl) (hk : env.scope.kind = .function := by rfl) (hl : env.kindOf x = some .cell := by rfl) (hx : (x == ("__debug__" : Str)) = false := by decide) :
    wpAny (MM w) A (eval (.Name x pos) env) Q E ⟨h, g, d, t, os⟩ := wpAny_Name (wpAny_loadName_cell hk hl hc ⟨oc, e, hd⟩ q) hx
theorem n_free {Q : Value → Shared → Prop} (e : h.get? c = some oc) (hd : oc.data = .cell (some v)) (q : Q v ⟨h, g, d, t, os⟩) (hc : env.cells.lookup x = some c := by rfl) (hk : env.scope.kind = .function := by rfl) (hl : env.kindOf x = some .free := by rfl) (hx : (x == ("__debug__" : Str)) = false := by decide) (hn : (x == ("__classdict__" : Str)) = false := by decide) :
    wpAny (MM w) A (eval (.Name x pos) env) Q E ⟨h, g, d, t, os⟩ := wpAny_Name (wpAny_loadName_free hk hl hc ⟨oc, e, hd⟩ q hn) hx
theorem s_cell {Q : Unit → Shared → Prop} {v₀ : Option Value} (S : Sta ts h₀ L m ow h) (i : Nat) (hi : ow[i]? = some (c, oc)) (hd : oc.data = .cell v₀) (q : ∀ h' oc', oc'.data = .cell (some v) → Sta ts h₀ L m (ow.set i (c, oc')) h' → Q () ⟨h', g, d, t, os⟩)
    (hc : env.cells.lookup x = some c := by rfl) (hk : env.scope.kind = .function := by rfl) (hl : env.kindOf x = some .cell := by rfl) : wpAny (MM w) A (storeName env x v) Q E ⟨h, g, d, t, os⟩ :=
  wpAny_storeName_cell hk hl hc ⟨oc, S.own _ (List.mem_of_getElem? hi), hd⟩ fun h' hv sb => by
    obtain ⟨o', ho', hd'⟩ := hv
    exact q h' o' hd' (S.upd i hi sb ho')
theorem sta_cell1 {n : Str} {s₁ : Shared} (x : InCallC ⟨h, g, d, t, os⟩ h.objs.size m [(n, h.objs.size + 1)] cm s₁) :
    ∃ h₁ t₁ oc, s₁ = ⟨h₁, g, d, t₁, os⟩ ∧ Sta [] h h.objs.size m [(h.objs.size + 1, oc)] h₁ ∧ oc.data = .cell (cm n) := by
  obtain ⟨⟨⟨h₁, t₁, rfl⟩, ns, keep, fresh⟩, cell, _, _⟩ := x
  obtain ⟨oc, ho, hd⟩ := cell n (h.objs.size + 1) (by rw [List.lookup_cons]; simp)
  refine ⟨h₁, t₁, oc, rfl, ⟨Gr.of keep, size_none h, ns, fun p hp => ?_, fun p hp => ?_, List.pairwise_singleton _ _⟩, hd⟩
  · rw [List.mem_singleton.mp hp]; exact ho
  · rw [List.mem_singleton.mp hp]; exact ⟨Nat.ne_of_gt (Nat.lt_succ_self _), Heap.get?_none_of_le (Nat.le_succ _)⟩
end
section
variable {w : World} {mg mb : Str → Option Value} {g : Array GenState} {d : Drawn} {os : OsState}
theorem for_loop {A : Around} {R : Result → Shared → Prop} {h₀ h : Heap} {L I n : Nat} {t : Nat} {P : Nat → Value → Prop} {St : Nat → Obj → Prop} {dep : Heap → Prop} {target : Expr} {body : List Stmt} {env : Env} {m : Str → Option Value} {ow : Facts} {o : Obj}
    (T : Itr w g d os A I n P St dep) (hdep : ∀ h, Gr [] h₀ h → dep h) (J : Nat → (Str → Option Value) → Facts → Prop) (S : Sta [] h₀ L m (ow ++ [(I, o)]) h) (st : St 0 o) (j0 : J 0 m ow)
    (turn : ∀ i v m ow oI h t (E : Value → Shared → Prop), i < n → P i v → J i m ow → Sta [] h₀ L m (ow ++ [(I, oI)]) h → wpAny (MM w) A (assign target env v) (fun _ s₂ => wpAny (MM w) A (execs body env) (fun f s₃ => ∃ h' t' m' ow', s₃ = ⟨h', g, d, t', os⟩ ∧ f = .next ∧ Sta [] h₀ L m' (ow' ++ [(I, oI)]) h' ∧ J (i + 1) m' ow') E s₂) E ⟨h, g, d, t, os⟩)
    (fin : ∀ h' t' m ow, J n m ow → Sta [] h₀ L m ow h' → R (.ok .next) ⟨h', g, d, t', os⟩) (hgo : ∀ v, letOwnedTupleGo target (.ref I) v = pure ()) : codeAny (MM w) A (.forLoop target (.ref I) body [] env) R ⟨h, g, d, t, os⟩ := by
  refine codeAny_forLoop_any (fun j s => ∃ i m ow o hc tc, s = ⟨hc, g, d, tc, os⟩ ∧ j = n + 1 - i ∧ i ≤ n ∧ J i m ow ∧ Sta [] h₀ L m (ow ++ [(I, o)]) hc ∧ St i o) ?_ (n + 1) ⟨0, m, ow, o, h, t, rfl, by omega, Nat.zero_le _, j0, S, st⟩
  rintro j s ⟨i, m, ow, o, hc, tc, rfl, hj, hi, ji, S, st⟩
  have hI : hc.get? I = some o := S.own (I, o) (by simp)
  by_cases hlt : i < n
  · refine T.item i hc o tc _ _ hlt (hdep _ S.gr) hI st fun v h₁ o₁ t₁ pv ho₁ st₁ sb => ?_
    have S₁ := S.updLast sb ho₁
    dsimp only
    refine wpAny_of_eq (hgo v) ?_
    refine wpAny_mono (turn i v m ow o₁ h₁ t₁ _ hlt pv ji S₁) ?_ (fun _ _ e => e)
    intro _ s₂ q
    refine wpAny_mono q ?_ (fun _ _ e => e)
    rintro f s₃ ⟨h', t', m', ow', rfl, rfl, S', j'⟩
    exact ⟨n + 1 - (i + 1), by omega, i + 1, m', ow', o₁, h', t', rfl, rfl, hlt, j', S', st₁⟩
  · have hin : i = n := by omega
    subst hin
    refine T.done hc o tc _ _ (hdep _ S.gr) hI st fun h₁ t₁ ex => ?_
    have S₁ := S.extLast ex
    dsimp only
    exact wpAny_execs_nil (fin h₁ t₁ m ow ji S₁)
theorem tests_nil {A : Around} {E : Value → Shared → Prop} {Q : Bool → Shared → Prop} {s : Shared} {env : Env} (q : Q true s) : wpAny (MM w) A (testsOf [] env) Q E s := wpAny_of_eq rfl q
/-- what a comprehension without a test made, where each thing made is an int -/
theorem made_ints {P : Nat → Value → Prop} {El : Nat → Value → Value → Facts → Prop} {No : Nat → Value → Prop} {n : Nat} {ys : List Value} {fs : Facts} (md : Made P El No n ys fs) (f : Nat → Int)
    (he : ∀ i v y fs, i < n → P i v → El i v y fs → fs = [] ∧ ∃ tk, y = .int (f i) tk) (hno : ∀ i v, ¬ No i v) : IntsAre ys ((List.range n).map f) ∧ fs = [] := by
  induction md with
  | nil => exact ⟨.nil, rfl⟩
  | @yes i v y ys fs f' md pv el ih =>
    obtain ⟨h1, h2⟩ := ih fun i v y fs hi => he i v y fs (Nat.lt_succ_of_lt hi)
    obtain ⟨rfl, tk, rfl⟩ := he _ _ _ _ (Nat.lt_succ_self _) pv el
    rw [List.range_succ, List.map_append]
    exact ⟨h1.append (.cons _ tk .nil), by rw [h2]; rfl⟩
  | no _ _ hn => exact absurd hn (hno _ _)
theorem ints_get : ∀ {vs : List Value} {ns : List Int} {i : Nat}, IntsAre vs ns → i < ns.length → ∃ tk, vs[i]? = some (.int (ns.getD i 0) tk)
  | _, _, 0, .cons n t _, _ => ⟨t, rfl⟩
  | _, _, i + 1, .cons n t r, h => by
    obtain ⟨tk, e⟩ := ints_get (i := i) r (by simpa using h)
    exact ⟨tk, by simpa using e⟩
theorem map_range_getD (ns : List Int) (f : Int → Int) : (List.range ns.length).map (fun i => f (ns.getD i 0)) = ns.map f := by
  apply List.ext_getElem
  · simp
  · intro i h1 h2
    simp at h1
    simp [h1]
theorem dbl_len : ∀ (l acc : List Int), (l.foldl (fun sums n => sums ++ sums.map (fun one => n + one)) acc).length = 2 ^ l.length * acc.length
  | [], acc => by simp
  | a :: l, acc => by rw [List.foldl_cons, dbl_len l, List.length_append, List.length_map, List.length_cons, Nat.pow_succ, Nat.mul_assoc]; congr 1; omega
set_option maxHeartbeats 4000000 in
theorem doubled_spec {A : Around} {E : Value → Shared → Prop} {l : Addr} {vs : List Value} {ns : List Int} {h : Heap} {t : Nat}
    (R : RoomN 2 20 A) (W : Wd w mg mb h) (hl : h.IsList l vs.toArray) (hi : IntsAre vs ns) (hlen : ns.length ≤ 5) :
    wpAny (MM w) A (call (.ref 79) [.ref l]) (Back [] g d os h fun v h' => ∃ D ys k, v = .ref D ∧ h.get? D = none ∧ h'.get? D = some (lst ys k) ∧ IntsAre ys (ns.foldl (fun sums n => sums ++ sums.map (fun one => n + one)) [0])) E ⟨h, g, d, t, os⟩ := by
  refine wpAny_call (codeAny_call_cells (binds := [("numbers", .ref l)]) R.lim (W.k 79 _ rfl) rfl W.lim (codeRec_of W.k rfl) rfl rfl rfl (fun x hx => by rw [List.mem_singleton.mp hx]; exact .inl rfl) (fun s₁ x => ?_))
  obtain ⟨h₁, t₁, oc, rfl, S₁, hoc⟩ := sta_cell1 x
  have W₁ := W.gr Tabs.nil S₁.gr
  refine wp_gen2 fun Qf Ef hQf => ?_
  refine wpAny_execs_cons (wp_gen fun Qs hQs => ?_)
  refine wpAny_Assign_Name ?_
  refine wpAny_List ?_
  refine wpAny_items_cons ?_
  refine wpAny_Constant_int ?_
  refine wpAny_items_nil ⟨by show 1 ≤ sizeLine; decide, ?_⟩
  have S₂ := S₁.push (lst [.int 0 t₁] 0) rfl
  refine s_loc S₂ fun h₃ S₃ => ?_
  refine hQs _ _ ?_
  refine wpAny_execs_cons (wp_gen fun Qr hQr => ?_)
  refine wpAny_For ?_
  refine n_loc S₃ rfl ?_
  refine wpAny_pyIter_list (list_all hl S₃.all) ?_
  have S₄ := S₃.push (iterObj l 0) rfl
  have hvl := hi.length
  dsimp only
  generalize h₃.push (iterObj l 0) = h₄ at *
  have S₅ := S₄.toEnd
  refine for_loop (J := fun i m ow => ∃ D ys k oc', ow = [(D, lst ys k), (h.objs.size + 1, oc')] ∧ (∃ v, oc'.data = .cell v) ∧ m "sums" = some (.ref D) ∧ IntsAre ys ((ns.take i).foldl (fun sums n => sums ++ sums.map (fun one => n + one)) [0])) (Itr.list (by exact R.h) h₃.objs.size l vs) (fun h' G => list_all hl G.all) S₅ ⟨rfl, rfl⟩
    ⟨_, _, _, _, rfl, ⟨_, hoc⟩, rfl, by simp; exact .cons 0 _ .nil⟩ ?turn ?fin (fun v => rfl)
  case fin =>
    rintro h' t' m ow ⟨D, ys, k, oc', rfl, _, hm, hys⟩ S
    rw [hvl, List.take_length] at hys
    refine hQr _ _ ?_
    try dsimp only
    refine wpAny_execs_cons (wpAny_Return_some (n_loc S hm ?_))
    refine hQf _ _ ?_
    exact ⟨h', _, rfl, S.gr, D, ys, k, rfl, (S.gt _ (.head _)).2, S.own _ (.head _), hys⟩
  case turn =>
    rintro i v m ow oI hc tc E' hin hv ⟨D, ys, k, oc', rfl, ⟨cv, hcv⟩, hm, hys⟩ S
    have hin' : i < ns.length := by omega
    obtain ⟨tk, hvi⟩ := ints_get hi hin'
    rw [hv] at hvi; cases hvi
    refine wpAny_assign_Name ?_
    refine s_cell (c := h.objs.size + 1) (oc := oc') S 1 rfl hcv ?_
    intro h₅ oc₅ hd₅ S₅
    have W₅ := W.gr Tabs.nil S₅.gr
    refine wp_gen fun Qb hQb => ?_
    refine wpAny_execs_cons (wp_gen fun Qs hQs => ?_)
    refine wpAny_Assign_Name ?_
    refine wpAny_BinOp ?_
    refine n_loc S₅ hm ?_
    rw [eval_ListComp]
    refine wpAny_comprehension_free (cl := [("number", h.objs.size + 1)]) rfl (fun _ => rfl) rfl rfl (by decide) ?_
    refine n_loc S₅ hm ?_
    have L₅ := S₅.own _ (.head _)
    have C₅ := S₅.own _ (.tail _ (.head _))
    refine wpAny_pyIter_list (lst_is L₅) ?_
    have hyl := hys.length
    have hlen' : ((ns.take i).foldl (fun sums n => sums ++ sums.map (fun one => n + one)) [0]).length ≤ 32 := by
      rw [dbl_len, List.length_take]
      have : 2 ^ (min i ns.length) ≤ 2 ^ 5 := Nat.pow_le_pow_right (by decide) (by omega)
      simp; omega
    generalize hacc : (ns.take i).foldl (fun sums n => sums ++ sums.map (fun one => n + one)) [0] = acc at *
    refine comp_eval (El := fun j _ y f => f = [] ∧ ∃ n tk, y = .int n tk ∧ n = ns.getD i 0 + acc.getD j 0) (No := fun _ _ => False) (hb := h₅) (Itr.list (by exact R.h) h₅.objs.size D ys) (fun h' G => list_all (lst_is L₅) G.all) (by omega) (Gr.push _ _ _) (size_none _) (Heap.get?_push_size _ rfl) ⟨rfl, rfl⟩ ?turn2 ?fin2 (by decide) rfl rfl
    case turn2 =>
      intro C j v m' ow' h' t' E'' nC hj pv S' hm'
      refine tests_nil ⟨h', t', rfl, Gr.refl _ _, ?_⟩
      simp only [if_true]
      obtain ⟨tk', hvj⟩ := ints_get hys (i := j) (by omega)
      rw [pv] at hvj; cases hvj
      refine wpAny_BinOp ?_
      refine n_cell (S'.all _ _ C₅) hd₅ ?_
      refine n_loc S' hm' ?_
      refine add_int ?_
      exact ⟨h', _, [], rfl, Gr.refl _ _, ⟨rfl, _, _, rfl, rfl⟩, (fun _ h => nomatch h), List.Pairwise.nil, (fun _ h => nomatch h)⟩
    case fin2 =>
      intro D2 h₆ t₆ ys2 fs2 k2 md G₆ hh6 hn6 hp6
      obtain ⟨hys2, rfl⟩ := made_ints md (fun j => ns.getD i 0 + acc.getD j 0) (fun j v y fs hj pv ⟨h1, n, tk, h2, h3⟩ => ⟨h1, tk, by rw [h2, h3]⟩) (fun _ _ h => h)
      rw [hyl, map_range_getD acc (fun one => ns.getD i 0 + one)] at hys2
      have S₆ := S₅.grow G₆
      refine P.add_list (S₆.own _ (.head _)) (hh6 _ (.head _)) ?_ ?_
      rotate_left
      · have := hys2.length; rw [List.length_map] at this; simp; rw [sizeLine_eq]; omega
      rw [List.append_toArray]
      have S₇ := S₆.push (lst (ys ++ ys2) 0) rfl
      refine s_loc S₇ fun h₈ S₈ => ?_
      refine hQs _ _ ?_
      refine wpAny_execs_nil ?_
      refine hQb _ _ ?_
      refine ⟨h₈, _, _, [(_, lst (ys ++ ys2) 0), (h.objs.size + 1, oc₅)], rfl, rfl, S₈.drop ?_, _, _, _, _, rfl, ⟨_, hd₅⟩, rfl, ?_⟩
      · exact .cons_cons _ (.cons _ (List.Sublist.refl _))
      · rw [List.take_add_one, List.foldl_append, hacc]
        have : ns[i]? = some (ns.getD i 0) := by rw [List.getD_eq_getElem?_getD, List.getElem?_eq_getElem hin']; rfl
        rw [this]
        exact hys.append hys2
end
end Mine
end
section
open PySem PySem.W PySem.W.X PyProof.Rows PySem.Calls
set_option maxRecDepth 100000
namespace Mine
noncomputable def Live (ts : List Addr) (h : Heap) : Prop := ∀ z ∈ ts, ∃ o, h.get? z = some o
section
variable {ts : List Addr} {h₀ h h' : Heap} {L : Addr} {m m' : Str → Option Value} {ow : Facts}
theorem live_not {a : Addr} (hz : Live ts h) (n : h.get? a = none) : a ∉ ts := fun q => by obtain ⟨o, e⟩ := hz a q; rw [n] at e; cases e
theorem Sta.growT (S : Sta ts h₀ L m ow h) (hz : Live ts h₀) (G : Gr ts h h') : Sta ts h₀ L m ow h' :=
  ⟨S.gr.trans G, S.lo, ns_at S.ns fun o e => G.keep _ o (live_not hz S.lo) e, fun p hp => G.keep _ _ (live_not hz (S.gt p hp).2) (S.own p hp), S.gt, S.ord⟩
theorem Sta.freshT' (S : Sta ts h₀ L m ow h) (hz : Live ts h) {a : Addr} (n : h.get? a = none) : a ≠ L ∧ h₀.get? a = none := S.freshT hz n
theorem Sta.addsT (S : Sta ts h₀ L m ow h) (hz₀ : Live ts h₀) (hz : Live ts h) (G : Gr ts h h') {fs : Facts} (ge : ∀ p ∈ fs, h.get? p.1 = none) (ho : Has fs h') (hord : (fs.map (·.1)).Pairwise (· ≠ ·)) : Sta ts h₀ L m (fs ++ ow) h' := by
  have S' := S.growT hz₀ G
  refine ⟨S'.gr, S.lo, S'.ns, fun p hp => ?_, fun p hp => ?_, ?_⟩
  · rcases List.mem_append.mp hp with hp | hp
    · exact ho p hp
    · exact S'.own p hp
  · rcases List.mem_append.mp hp with hp | hp
    · exact S.freshT hz (ge p hp)
    · exact S.gt p hp
  · rw [List.map_append]
    refine List.pairwise_append.mpr ⟨hord, S.ord, fun a ha b hb => ?_⟩
    obtain ⟨p, hp, rfl⟩ := List.mem_map.mp ha
    obtain ⟨q, hq, rfl⟩ := List.mem_map.mp hb
    exact (none_ne (ge p hp) (S.own q hq)).symm
end
section
variable {w : World} {g : Array GenState} {d : Drawn} {os : OsState}
set_option maxHeartbeats 1000000 in
/-- comp_loop where each turn may turn the object at z -/
theorem comp_loopT {A : Around} {R : Result → Shared → Prop} {hb h : Heap} {C D I n z : Nat} {t : Nat} {P : Nat → Value → Prop} {St : Nat → Obj → Prop} {dep : Heap → Prop} {El : Nat → Value → Value → Facts → Prop} {Z : Nat → Obj → Facts → Prop}
    {elt iter : Expr} {x : Str} {px : Pos} {scope : Scope} {pos : Pos} {cenv : Env} {m : Str → Option Value} {o : Obj}
    (T : Itr w g d os A I n P St dep) (hdep : ∀ h, Gr [z] hb h → dep h) (hn : n ≤ 1000) {oz₀ oz : Obj} (hz₀ : hb.get? z = some oz₀) (S : Sta [z] hb C m [(D, lst [] 0), (I, o)] h) (st : St 0 o) (hz : h.get? z = some oz) (z0 : Z 0 oz [])
    (hC : cenv.locals = C) (hx : cenv.kindOf x = some .local) (hp : (cenv.scope.kind == .class || (cenv.scope.kind == .module && cenv.locals != cenv.globals)) = false)
    (turn : ∀ i v m ow h t oz fs (E : Value → Shared → Prop), i < n → P i v → Sta [z] hb C m (fs ++ ow) h → h.get? z = some oz → Z i oz fs → m x = some v →
      wpAny (MM w) A (eval elt cenv) (fun y s'' => ∃ h'' t'' f oz', s'' = ⟨h'', g, d, t'', os⟩ ∧ Gr [z] h h'' ∧ El i v y f ∧ h''.get? z = some oz' ∧ Z (i + 1) oz' (f ++ fs) ∧ Has f h'' ∧ (f.map (·.1)).Pairwise (· ≠ ·) ∧ ∀ p ∈ f, h.get? p.1 = none) E ⟨h, g, d, t, os⟩)
    (fin : ∀ h' t' m' ys fs k oz', Made P El (fun _ _ => False) n ys fs → Sta [z] hb C m' (fs ++ [(D, lst ys k)]) h' → h'.get? z = some oz' → Z n oz' fs → R (.ok .next) ⟨h', g, d, t', os⟩) :
    codeAny (MM w) A (.compStart (.ListComp elt [⟨.Name x px, iter, [], 0⟩] scope pos) 0 (.ref I) (.ref D) cenv) R ⟨h, g, d, t, os⟩ := by
  have lv₀ : Live [z] hb := fun y hy => by rw [List.mem_singleton.mp hy]; exact ⟨_, hz₀⟩
  have nez : ∀ a, hb.get? a = none → z ≠ a := fun a q => none_ne q hz₀
  have loop : ∀ t, codeAny (MM w) A (.compLoop (.ListComp elt [⟨.Name x px, iter, [], 0⟩] scope pos) 0 (.ref I) (.ref D) cenv) R ⟨h, g, d, t, os⟩ := by
    intro t
    refine codeAny_compLoop_tests (fun j s => ∃ i m ys fs k o oz hc tc, s = ⟨hc, g, d, tc, os⟩ ∧ j = n + 1 - i ∧ i ≤ n ∧ Made P El (fun _ _ => False) i ys fs ∧ Sta [z] hb C m (fs ++ [(D, lst ys k), (I, o)]) hc ∧ St i o ∧ hc.get? z = some oz ∧ Z i oz fs) ?_ (n + 1)
      ⟨0, m, [], [], 0, o, oz, h, t, rfl, by omega, Nat.zero_le _, .nil, S, st, hz, z0⟩
    rintro j s ⟨i, m, ys, fs, k, o, oz, hc, tc, rfl, hj, hi, md, S, st, hz, zi⟩
    have hI : hc.get? I = some o := S.own (I, o) (by simp)
    have nzI : z ≠ I := nez I (S.gt (I, o) (by simp)).2
    have nzD : z ≠ D := nez D (S.gt (D, lst ys k) (by simp)).2
    have nzC : z ≠ C := nez C S.lo
    have iI : (fs ++ [(D, lst ys k), (I, o)])[fs.length + 1]? = some (I, o) := by simp
    by_cases hlt : i < n
    · refine T.item i hc o tc _ _ hlt (hdep _ S.gr) hI st fun v h₁ o₁ t₁ pv ho₁ st₁ sb => ?_
      have S₁ := S.upd (fs.length + 1) iI sb ho₁
      have e₁ : (fs ++ [(D, lst ys k), (I, o)]).set (fs.length + 1) (I, o₁) = fs ++ [(D, lst ys k), (I, o₁)] := by simp
      rw [e₁] at S₁
      have hz₁ : h₁.get? z = some oz := (sb.2 z nzI).trans hz
      dsimp only
      subst hC
      refine wpAny_assign_Name (wpAny_storeName_local (m := m) hx S₁.ns (fun h₂ hn₂ sb₂ => ?_) hp)
      have S₂ := S₁.set hn₂ sb₂
      have hz₂ : h₂.get? z = some oz := (sb₂.2 z nzC).trans hz₁
      refine wpAny_of_eq (a := true) rfl ?_
      simp only [if_true]
      refine wpAny_mono (turn i v _ _ h₂ _ oz fs _ hlt pv S₂ hz₂ zi (by simp)) ?_ (fun _ _ e => e)
      rintro y s'' ⟨h₄, t₄, f, oz', rfl, G₄, el, hz₄, zi', hf, hpw, hfr⟩
      have lv₂ : Live [z] h₂ := fun y hy => by rw [List.mem_singleton.mp hy]; exact ⟨_, hz₂⟩
      have S₄ := S₂.addsT lv₀ lv₂ G₄ hfr hf hpw
      have hD : h₄.PlainList D ys.toArray := ⟨k, S₄.own (D, lst ys k) (by simp)⟩
      have hlen := md.len
      refine wpAny_list_append_plain hD (fun h₅ pl sb₅ => ?_) (by rw [List.size_toArray, sizeLine_eq]; omega)
      obtain ⟨k', ho₅⟩ := pl
      have iD : (f ++ (fs ++ [(D, lst ys k), (I, o₁)]))[(f ++ fs).length]? = some (D, lst ys k) := by
        rw [← List.append_assoc]; simp
      have ho₅' : h₅.get? D = some (lst (ys ++ [y]) k') := by rw [ho₅]; simp
      have S₅ := S₄.upd (f ++ fs).length iD sb₅ ho₅'
      have e₅ : (f ++ (fs ++ [(D, lst ys k), (I, o₁)])).set (f ++ fs).length (D, lst (ys ++ [y]) k') = (f ++ fs) ++ [(D, lst (ys ++ [y]) k'), (I, o₁)] := by
        rw [← List.append_assoc]; simp
      rw [e₅] at S₅
      exact ⟨n + 1 - (i + 1), by omega, i + 1, _, ys ++ [y], f ++ fs, k', o₁, oz', h₅, t₄, rfl, rfl, hlt, md.yes pv el, S₅, st₁, (sb₅.2 z nzD).trans hz₄, zi'⟩
    · have hin : i = n := by omega
      subst hin
      refine T.done hc o tc _ _ (hdep _ S.gr) hI st fun h₁ t₁ ex => ?_
      have S₁ := S.ext (fs.length + 1) iI ex
      have e₁ : (fs ++ [(D, lst ys k), (I, o)]).eraseIdx (fs.length + 1) = fs ++ [(D, lst ys k)] := by
        rw [List.eraseIdx_append_of_length_le (by omega)]; simp
      rw [e₁] at S₁
      exact fin h₁ t₁ m ys fs k oz md S₁ (ex z _ nzI hz) zi
  exact codeAny_compStart_list (loop _) (T.self 0 h o t _ _ (S.own (I, o) (by simp)) st (loop _))
theorem comp_evalT {A : Around} {E : Value → Shared → Prop} {Q : Value → Shared → Prop} {hb h : Heap} {I n z : Nat} {t : Nat} {P : Nat → Value → Prop} {St : Nat → Obj → Prop} {dep : Heap → Prop} {El : Nat → Value → Value → Facts → Prop} {Z : Nat → Obj → Facts → Prop}
    {elt iter : Expr} {x : Str} {px : Pos} {scope : Scope} {cl : List (Str × Addr)} {pos : Pos} {env : Env} {o : Obj} {oz₀ : Obj} (hz₀ : hb.get? z = some oz₀) (z0 : Z 0 oz₀ [])
    (T : Itr w g d os A I n P St dep) (hdep : ∀ h, Gr [z] hb h → dep h) (hn : n ≤ 1000) (G : Gr [] hb h) (nI : hb.get? I = none) (hI : h.get? I = some o) (st : St 0 o)
    (turn : ∀ C i v m ow h t oz fs (E : Value → Shared → Prop), hb.get? C = none → i < n → P i v → Sta [z] hb C m (fs ++ ow) h → h.get? z = some oz → Z i oz fs → m x = some v →
      wpAny (MM w) A (eval elt (compEnvC scope cl C env)) (fun y s'' => ∃ h'' t'' f oz', s'' = ⟨h'', g, d, t'', os⟩ ∧ Gr [z] h h'' ∧ El i v y f ∧ h''.get? z = some oz' ∧ Z (i + 1) oz' (f ++ fs) ∧ Has f h'' ∧ (f.map (·.1)).Pairwise (· ≠ ·) ∧ ∀ p ∈ f, h.get? p.1 = none) E ⟨h, g, d, t, os⟩)
    (fin : ∀ D h' t' ys fs k oz', Made P El (fun _ _ => False) n ys fs → Gr [z] hb h' → Has (fs ++ [(D, lst ys k)]) h' → (∀ p ∈ fs ++ [(D, lst ys k)], hb.get? p.1 = none) → ((fs ++ [(D, lst ys k)]).map (·.1)).Pairwise (· ≠ ·) → h'.get? z = some oz' → Z n oz' fs → Q (.ref D) ⟨h', g, d, t', os⟩)
    (hcell : ∀ y ∈ scope.names, y.2 ≠ .cell) (hkind : scope.kind = .function) (hx : scope.names.lookup x = some .local) :
    wpAny (MM w) A (newList []) (fun acc s₃ => wpAny (MM w) A (newFunctionEnv scope env.globals cl [] env.qual none .none (some env)) (fun cenv s₄ =>
      codeAny (MM w) A (.compStart (.ListComp elt [⟨.Name x px, iter, [], 0⟩] scope pos) 0 (.ref I) acc { cenv with scope := relabel scope env }) (compPost (MM w) A E none Q acc cenv.locals) s₄) E s₃) E ⟨h, g, d, t, os⟩ := by
  refine wpAny_newObj_type (wpAny_newFunctionEnv hcell (by intro y hy; simp at hy) (fun h₁ hns₁ hsb₁ => ?_) hkind)
  have hD : (h.push { cls := .type "list", data := .seq ([] : List Value).toArray }).get? h.objs.size = some (lst [] 0) := Heap.get?_push_size _ rfl
  have GD : Gr [] h (h.push { cls := .type "list", data := .seq ([] : List Value).toArray }) := Gr.push _ _ _
  dsimp only at hns₁ hsb₁ ⊢
  generalize h.push { cls := .type "list", data := .seq ([] : List Value).toArray } = h₂ at *
  have G₁ : Gr [] h₂ h₁ := ⟨fun b o _ e => (hsb₁.2 b (fun q => by rw [q, size_none] at e; cases e)).trans (Heap.get?_push_of_some _ e)⟩
  have nD : hb.get? h.objs.size = none := by
    cases e : hb.get? h.objs.size with
    | none => rfl
    | some x => have := G.all _ _ e; rw [size_none] at this; cases this
  have nC : hb.get? h₂.objs.size = none := by
    cases e : hb.get? h₂.objs.size with
    | none => rfl
    | some x => have := GD.all _ _ (G.all _ _ e); rw [size_none] at this; cases this
  have S : Sta [z] hb h₂.objs.size (fun x => List.lookup x ([] : List (Str × Value)).reverse) [(h.objs.size, lst [] 0), (I, o)] h₁ := by
    refine ⟨((G.trans GD).trans G₁).weak, nC, hns₁, fun p hp => ?_, fun p hp => ?_, ?_⟩
    · rcases List.mem_cons.mp hp with rfl | hp
      · exact G₁.all _ _ hD
      · rw [List.mem_singleton.mp hp]; exact G₁.all _ _ (GD.all _ _ hI)
    · rcases List.mem_cons.mp hp with rfl | hp
      · exact ⟨none_ne (size_none h₂) hD, nD⟩
      · rw [List.mem_singleton.mp hp]; exact ⟨none_ne (size_none h₂) (GD.all _ _ hI), nI⟩
    · refine List.Pairwise.cons (fun b hb' => ?_) (List.pairwise_singleton _ _)
      have : b = I := by simpa using hb'
      rw [this]; exact (none_ne (size_none h) hI).symm
  refine comp_loopT (Z := Z) T hdep hn hz₀ S st (((G.trans GD).trans G₁).all _ _ hz₀) z0 rfl (lookup_relabel_local hx) (by show (scope.kind == .class || (scope.kind == .module && _)) = false; rw [hkind]; rfl) (fun i v m ow h t oz fs E hi pv S hz zi hm => turn _ i v m ow h t oz fs E nC hi pv S hz zi hm) fun h' t' m' ys fs k oz' md S hz' zn => ?_
  refine ⟨m', S.ns, fun h'' sb => ?_⟩
  exact fin _ h'' _ ys fs k oz' md ⟨fun b o n e => (sb.2 b (none_ne S.lo e)).trans (S.gr.keep b o n e)⟩ (fun p hp => (sb.2 p.1 (S.gt p hp).1).trans (S.own p hp)) (fun p hp => (S.gt p hp).2) S.ord ((sb.2 z (none_ne S.lo hz₀)).trans hz') zn
end
end Mine
end
section
open PySem PySem.W PySem.W.X PyProof.Rows PySem.Calls
set_option maxRecDepth 100000
namespace Mine
noncomputable def CodeOb (o : Obj) (q : Str) : Prop := ∃ vs tq, o.data = .fields vs ∧ vs[1]? = some (.str q tq)
/-- lists of ints at the places of a list -/
structure RowsAt (h : Heap) (cvs : List Value) (cs : List (List Int)) : Prop where
  len : cvs.length = cs.length
  row : ∀ i v, cvs[i]? = some v → ∃ a vs, v = .ref a ∧ h.IsList a vs.toArray ∧ IntsAre vs (cs.getD i [])
theorem codeHd66 {w : World} {mg mb : Str → Option Value} {h : Heap} (W : Wd w mg mb h) : CodeHd h 66 64 :=
  ⟨_, _, _, _, _, _, _, _, _, W.k 66 _ rfl, rfl, rfl, rfl, rfl, rfl, rfl, rfl, rfl, by decide⟩
theorem bltAt {w : World} {mg mb : Str → Option Value} {h : Heap} (W : Wd w mg mb h) (P : Addr) (hP : P ≠ 4) : h.BuiltinsAt mg P :=
  let ⟨ob, e, r⟩ := W.m4; ⟨4, ob, ns_of W.k W.g rfl, by decide, by decide, hP.symm, e, r⟩
/-- a table of codes at z, with or without the code of what stands at pos -/
noncomputable def TabSt (pos : Pos) (q : Str) (oz : Obj) (Kn : Addr → Obj → Prop) : Prop := ∃ ps, oz = tabObj ps ∧ TriplesOk ps.toList ∧ (codeAmong pos ps.toList = none ∨ ∃ c oc, codeAmong pos ps.toList = some (.ref c) ∧ Kn c oc ∧ CodeOb oc q)
noncomputable def TabHit (pos : Pos) (q : Str) (oz : Obj) (c : Addr) (oc : Obj) : Prop := ∃ ps, oz = tabObj ps ∧ TriplesOk ps.toList ∧ codeAmong pos ps.toList = some (.ref c) ∧ CodeOb oc q
theorem TabHit.st {pos : Pos} {q : Str} {oz : Obj} {c : Addr} {oc : Obj} {Kn : Addr → Obj → Prop} (x : TabHit pos q oz c oc) (k : Kn c oc) : TabSt pos q oz Kn := let ⟨ps, e, ht, y, z⟩ := x; ⟨ps, e, ht, .inr ⟨c, oc, y, k, z⟩⟩
section
variable {w : World} {mg mb : Str → Option Value} {g : Array GenState} {d : Drawn} {os : OsState}
theorem lam_make {A : Around} {E : Value → Shared → Prop} {Q : Value → Shared → Prop} {name qual : Str} {params : Arguments} {body : Expr} {scope : Scope} {env : Env} {pos : Pos} {firstLine : Nat} {clos : List (Str × Addr)} {h : Heap} {t : Nat} {oz : Obj}
    (W : Wd w mg mb h) (hz : h.get? 64 = some oz) (st : TabSt pos qual oz fun c oc => h.get? c = some oc) (hcl : closureFor scope env = pure clos) (hg : env.globals = mainGlobals) (hcode : env.code = .ref 66)
    (q : ∀ f h' t' oz' c oc pm ctv, Gr [64] h h' → h.get? f = none → h'.get? f = some (kla_obj name qual params body scope clos pm c ctv) → h'.get? 64 = some oz' → TabHit pos qual oz' c oc → h'.get? c = some oc → CodeOb oc qual → c ≠ 64 → ((oz' = oz ∧ h.get? c = some oc) ∨ h.get? c = none) → Q (.ref f) ⟨h', g, d, t', os⟩) :
    wpAny (MM w) A (makeFunction name qual params (.expr body) scope env [] [] [] pos firstLine) Q E ⟨h, g, d, t, os⟩ := by
  obtain ⟨ps, rfl, ht, no | ⟨c, oc, yes, hc, hco⟩⟩ := st
  · refine kla_makeFunction (mg := mg) hcl hg W.g hcode (codeHd66 W) hz ht no (by decide) (bltAt W 64 (by decide)) fun c' ctv h' tk hx hge hlt hrec htb => ?_
    obtain ⟨c₂, oc, vs, tq, e2, hoc, hd, hv⟩ := hrec
    cases e2
    have n0 : h.get? c' = none := Heap.get?_none_of_le hge
    have hne : c' ≠ 64 := (none_ne n0 hz).symm
    refine q h'.objs.size _ tk (tabObj (ps ++ #[rawInt pos.line, rawInt pos.col, .ref c'])) c' oc _ ctv ⟨fun b o n e => Heap.get?_push_of_some _ (hx b o (by simpa using n) e)⟩ (Heap.get?_none_of_le (Nat.le_trans hge (Nat.le_of_lt hlt))) (Heap.get?_push_size _ rfl) (Heap.get?_push_of_some _ htb) ?_ (Heap.get?_push_of_some _ hoc) ⟨vs, tq, hd, hv⟩ hne (.inr n0)
    refine ⟨_, rfl, ?_, ?_, vs, tq, hd, hv⟩
    · rw [Array.toList_append]; exact TriplesOk_snoc _ _ _ _ ht
    · rw [Array.toList_append]; exact codeAmong_snoc _ ht no
  · refine kla_makeFunctionHit (mg := mg) hcl hg W.g hcode (codeHd66 W) hz ht yes (bltAt W 64 (by decide)) fun ctv h' tk hk hsz => ?_
    have hne : c ≠ 64 := fun e => by
      subst e
      have hz' : h.get? 64 = some (tabObj ps) := hz
      rw [hz'] at hc; cases hc
      obtain ⟨vs, tq, e1, e2⟩ := hco
      cases e1
      -- a table of triples holds no text at place 1
      obtain ⟨l⟩ := ps
      cases l with
      | nil => cases e2
      | cons a l =>
        cases l with
        | nil => cases e2
        | cons b l =>
          have : b = .str qual tq := by simpa using e2
          subst this
          cases a <;> exact ht.elim
    exact q h'.objs.size _ tk (tabObj ps) c oc _ ctv ⟨fun b o _ e => Heap.get?_push_of_some _ (hk b o e)⟩ (Heap.get?_none_of_le hsz) (Heap.get?_push_size _ rfl) (Heap.get?_push_of_some _ (hk _ _ hz)) ⟨ps, rfl, ht, yes, hco⟩ (Heap.get?_push_of_some _ (hk _ _ hc)) hco hne (.inl ⟨rfl, hc⟩)
end
end Mine
end
section
open PySem PySem.W PySem.W.X PyProof.Rows PySem.Calls
set_option maxRecDepth 100000
namespace Mine
noncomputable def lamPos : Pos := { line := 76, col := 19, endLine := 76, endCol := 60 }
noncomputable def lamQ : Str := "_law_sums.<locals>.<lambda>"
theorem Sta.all64 {h₀ h : Heap} {L : Addr} {m : Str → Option Value} {ow : Facts} (S : Sta [64] h₀ L m ow h) {l : Addr} {items : Array Value} (x : h₀.IsList l items) (hz : ∃ ps, h₀.get? 64 = some (tabObj ps)) : h.IsList l items := by
  obtain ⟨o, ho, hc, r⟩ := x
  refine ⟨o, S.gr.keep _ _ (fun q => ?_) ho, hc, r⟩
  rw [List.mem_singleton.mp q] at ho
  obtain ⟨ps, hz⟩ := hz
  rw [hz] at ho; cases ho; cases hc
theorem tab_not_code {ps : Array Value} {q : Str} (ht : TriplesOk ps.toList) (x : CodeOb (tabObj ps) q) : False := by
  obtain ⟨vs, tq, e1, e2⟩ := x
  cases e1
  obtain ⟨l⟩ := ps
  cases l with
  | nil => cases e2
  | cons a l =>
    cases l with
    | nil => cases e2
    | cons b l =>
      have : b = .str q tq := by simpa using e2
      subst this
      cases a <;> exact ht.elim
theorem made_ints' {P : Nat → Value → Prop} {El : Nat → Value → Value → Facts → Prop} {No : Nat → Value → Prop} {n : Nat} {ys : List Value} {fs : Facts} (md : Made P El No n ys fs) (f : Nat → Int)
    (he : ∀ i v y fs, i < n → P i v → El i v y fs → ∃ tk, y = .int (f i) tk) (hno : ∀ i v, ¬ No i v) : IntsAre ys ((List.range n).map f) := by
  induction md with
  | nil => exact .nil
  | @yes i v y ys fs f' md pv el ih =>
    have h1 := ih fun i v y fs hi => he i v y fs (Nat.lt_succ_of_lt hi)
    obtain ⟨tk, rfl⟩ := he _ _ _ _ (Nat.lt_succ_self _) pv el
    rw [List.range_succ, List.map_append]
    exact h1.append (.cons _ tk .nil)
  | no _ _ hn => exact absurd hn (hno _ _)
section
variable {w : World} {mg mb : Str → Option Value} {g : Array GenState} {d : Drawn} {os : OsState}
theorem Gr.one {h h' : Heap} {z : Addr} (G : Gr [z] h h') {b : Addr} {o : Obj} (n : b ≠ z) (e : h.get? b = some o) : h'.get? b = some o := G.keep b o (by simpa using n) e
theorem list_ne {h : Heap} {l : Addr} {items : Array Value} {oz : Obj} {z : Addr} (x : h.IsList l items) (hz : h.get? z = some oz) (n : oz.cls ≠ .type "list") : l ≠ z := fun e => by
  obtain ⟨o, ho, hc, _⟩ := x
  subst e; rw [hz] at ho; cases ho; exact n hc
theorem list_one {h h' : Heap} {z l : Addr} {items : Array Value} (G : Gr [z] h h') (n : l ≠ z) (x : h.IsList l items) : h'.IsList l items := let ⟨o, ho, r⟩ := x; ⟨o, G.one n ho, r⟩
set_option maxHeartbeats 4000000 in
theorem sums_spec {A : Around} {E : Value → Shared → Prop} {l ch : Addr} {vs cvs : List Value} {ns : List Int} {cs : List (List Int)} {h : Heap} {t : Nat} {oz : Obj}
    (R : RoomN 4 40 A) (W : Wd w mg mb h) (hl : h.IsList l vs.toArray) (hi : IntsAre vs ns) (hc : h.IsList ch cvs.toArray) (hr : RowsAt h cvs cs) (hin : ∀ c ∈ cs, ∀ k ∈ c, 0 ≤ k ∧ k < ns.length) (hlen : cs.length ≤ 1000) (hpos : 0 < cs.length)
    (hns : ns.length ≤ 1000) (hz : h.get? 64 = some oz) (st : TabSt lamPos lamQ oz fun c oc => h.get? c = some oc) :
    wpAny (MM w) A (call (.ref 67) [.ref l, .ref ch]) (fun v s' => ∃ h' t' D ys k oz' c oc, s' = ⟨h', g, d, t', os⟩ ∧ v = .ref D ∧ Gr [64] h h' ∧ h.get? D = none ∧ h'.get? D = some (lst ys k) ∧ IntsAre ys (cs.map fun c => c.foldl (fun told p => told + ns.getD p.toNat 0) 0) ∧
      h'.get? 64 = some oz' ∧ TabHit lamPos lamQ oz' c oc ∧ h'.get? c = some oc ∧ (h.get? c = some oc ∨ h.get? c = none) ∧ c ≠ D) E ⟨h, g, d, t, os⟩ := by
  refine wpAny_call (codeAny_call_cells (binds := [("numbers", .ref l), ("choices", .ref ch)]) R.lim (W.k 67 _ rfl) rfl W.lim (codeRec_of W.k rfl) rfl rfl rfl (fun x hx => ?_) (fun s₁ x => ?_))
  · rcases List.mem_cons.mp hx with rfl | hx
    · exact .inr ⟨rfl, rfl⟩
    · rw [List.mem_singleton.mp hx]; exact .inl rfl
  obtain ⟨h₁, t₁, oc, rfl, S₁, hoc⟩ := sta_cell1 x
  have W₁ := W.gr Tabs.nil S₁.gr
  have C₁ := S₁.own _ (.head _)
  have hz₁ := S₁.all _ _ hz
  have hozc : oz.cls ≠ .type "list" := by obtain ⟨ps, rfl, _⟩ := st; intro e; cases e
  have nch := list_ne hc hz hozc
  have nl := list_ne hl hz hozc
  have nc64 : h.objs.size + 1 ≠ 64 := (none_ne (S₁.gt _ (.head _)).2 hz).symm
  refine wp_gen2 fun Qf Ef hQf => ?_
  refine wpAny_execs_cons (wp_gen fun Qs hQs => ?_)
  refine wpAny_Return_some ?_
  rw [eval_ListComp]
  refine wpAny_comprehension_free (cl := [("numbers", h.objs.size + 1)]) rfl (fun _ => rfl) rfl rfl (by decide) ?_
  refine n_loc S₁ rfl ?_
  refine wpAny_pyIter_list (list_all hc S₁.all) ?_
  refine comp_evalT (z := 64) (hb := h₁) (oz₀ := oz) (El := fun i _ y _ => ∃ n tk, y = .int n tk ∧ n = (cs.getD i []).foldl (fun told p => told + ns.getD p.toNat 0) 0) (Z := fun i oz fs => (TabSt lamPos lamQ oz fun c oc => (h₁.get? c = some oc ∧ c ≠ 64) ∨ (c, oc) ∈ fs) ∧ (0 < i → ∃ c oc, TabHit lamPos lamQ oz c oc ∧ ((h₁.get? c = some oc ∧ c ≠ 64) ∨ (c, oc) ∈ fs))) hz₁ ?z0 (Itr.list (by exact R.h) h₁.objs.size ch cvs) (fun h' G => list_one G nch (list_all hc S₁.all)) (by have := hr.len; omega) (Gr.push _ _ _) (size_none _) (Heap.get?_push_size _ rfl) ⟨rfl, rfl⟩ ?turn2 ?fin2 (by decide) rfl rfl
  case turn2 =>
    intro C i v m' ow' h' t' oz' fs E'' nC hj pv S' hz' ⟨zi, _⟩ hm'
    have W' := W₁.gr (ts := [64]) (fun t ht => .inr (List.mem_singleton.mp ht)) S'.gr
    have st' : TabSt lamPos lamQ oz' fun c oc => h'.get? c = some oc := by
      obtain ⟨ps, e, ht, no | ⟨c, oc, y1, y2, y3⟩⟩ := zi
      · exact ⟨ps, e, ht, .inl no⟩
      · refine ⟨ps, e, ht, .inr ⟨c, oc, y1, ?_, y3⟩⟩
        rcases y2 with ⟨y2, y4⟩ | y2
        · exact S'.gr.one y4 y2
        · exact S'.own _ (List.mem_append_left _ y2)
    refine wpAny_Call_Name_kw ?_
    refine n_glob W' rfl ?_
    refine c_call keeps_fn ?_
    refine wpAny_items_cons ?_
    refine kla_eval rfl ?_
    refine lam_make (pos := lamPos) (qual := lamQ) W' hz' st' rfl rfl rfl ?_
    intro f h₂ t₂ oz₂ c₂ oc₂ pm₂ ctv₂ G₂ nf hf hz₂ st₂ hc₂ hco₂ nc₂ old
    have lv : Live [64] h₁ := fun y hy => by rw [List.mem_singleton.mp hy]; exact ⟨_, hz₁⟩
    have S₂ := S'.growT lv G₂
    have W₂ := W₁.gr (ts := [64]) (fun t ht => .inr (List.mem_singleton.mp ht)) S₂.gr
    refine wpAny_items_cons ?_
    refine n_loc S₂ hm' ?_
    refine wpAny_items_cons ?_
    refine wpAny_Constant_int ?_
    refine wpAny_items_nil ⟨⟨_, _, W₂.k 38 _ rfl, rfl⟩, ?_⟩
    obtain ⟨a, rvs, rfl, hrl, hri⟩ := hr.row i v pv
    have ilt : i < cs.length := by have := hr.len; omega
    have hci : cs.getD i [] ∈ cs := by rw [List.getD_eq_getElem?_getD, List.getElem?_eq_getElem ilt]; exact List.getElem_mem _
    have nrl := list_ne hrl hz hozc
    have hrl₂ := list_one S₂.gr nrl (list_all hrl S₁.all)
    have hl₂ := list_one S₂.gr nl (list_all hl S₁.all)
    have hcell₂ : h₂.get? (h.objs.size + 1) = some oc := S₂.gr.one nc64 C₁
    have hrlen := hri.length
    refine wpAny_mono (reduce_spec (by exact R.h) (by have := R.d; show A.depth + 1 < 1000; omega) W₂ hrl₂ ⟨_, _, hf, rfl⟩ (.inl ⟨0, _, rfl⟩) (fun j v fs => fs = [] ∧ ∃ tk, v = .int (((cs.getD i []).take j).foldl (fun told p => told + ns.getD p.toNat 0) 0) tk) [] ⟨rfl, _, rfl⟩ (fun _ h => nomatch h) ?step) ?_ (fun _ _ e => e)
    case step =>
      rintro A' E3 j x v fs3 h₃ t₃ hA1 hA2 hA3 hx G₃ ⟨rfl, tk, rfl⟩ -
      have jlt : j < (cs.getD i []).length := by
        have := (List.getElem?_eq_some_iff.mp hx).1; omega
      obtain ⟨tp, hxj⟩ := ints_get hri jlt
      rw [hx] at hxj; cases hxj
      have hf₃ := G₃.all _ _ hf
      have hkm : (cs.getD i []).getD j 0 ∈ cs.getD i [] := by rw [List.getD_eq_getElem?_getD (l := cs.getD i []), List.getElem?_eq_getElem jlt]; exact List.getElem_mem _
      obtain ⟨k0, k1⟩ := hin _ hci _ hkm
      generalize hkk : (cs.getD i []).getD j 0 = kk at *
      refine wpAny_call (kla_callFunE (by have := R.d; rw [hA2]; show A.depth + 1 + 1 < 1000; omega) hf₃ rfl rfl rfl rfl ⟨c₂, oc₂, hco₂.choose, hco₂.choose_spec.choose, rfl, G₃.all _ _ hc₂, hco₂.choose_spec.choose_spec⟩ ?_)
      refine wpAny_of_eq (a := [(("told" : Str), Value.int (((cs.getD i []).take j).foldl (fun told p => told + ns.getD p.toNat 0) 0) tk), (("place" : Str), Value.int kk tp)]) (by rfl) ?_
      refine wpAny_newFunctionEnv (by dsimp only; decide) (locs rfl) (fun h₄ hns₄ hsb₄ => ⟨((W₂.gr Tabs.nil G₃).lim).fresh _ hsb₄, ?_⟩) rfl
      refine kla_codeExpr ?_
      have G₄ : Gr [] h₃ h₄ := ⟨fun b o _ e => (hsb₄.2 b (fun q => by rw [q, size_none] at e; cases e)).trans (Heap.get?_push_of_some _ e)⟩
      have S₄ := Sta.mk' (ts := []) G₄ (size_none h₃) hns₄
      have GG := G₃.trans G₄
      refine wpAny_BinOp ?_
      refine n_loc S₄ rfl ?_
      refine Subscript_ ?_
      refine n_free (c := h.objs.size + 1) (oc := oc) (v := .ref l) (GG.all _ _ hcell₂) hoc ?_
      refine n_loc S₄ rfl ?_
      obtain ⟨tn, hnk⟩ := ints_get hi (i := kk.toNat) (by omega)
      refine item_list (list_all hl₂ GG.all) k0 (by omega) (by simpa using hnk) ?_
      refine add_int ?_
      refine ⟨h₄, _, rfl, G₄, [], ⟨rfl, ?_⟩, (fun _ h => nomatch h), List.Pairwise.nil, (fun _ h => nomatch h)⟩
      have e1 : (cs.getD i [])[j]? = some kk := by rw [← hkk, List.getD_eq_getElem?_getD (l := cs.getD i []), List.getElem?_eq_getElem jlt]; rfl
      rw [List.take_add_one, List.foldl_append, e1]
      exact ⟨_, rfl⟩
    rintro v' s' ⟨h₅, t₅, rfl, G₅, fs₅, ⟨rfl, tk₅, rfl⟩, -⟩
    rw [hrlen, List.take_length]
    have hz₅ := G₅.all _ _ hz₂
    have hc₅ := G₅.all _ _ hc₂
    have GG : Gr [64] h' h₅ := G₂.trans G₅.weak
    rcases old with ⟨rfl, old⟩ | new
    · refine ⟨h₅, t₅, [], _, rfl, GG, ⟨_, _, rfl, rfl⟩, hz₅, ⟨zi, fun _ => ?_⟩, (fun _ h => nomatch h), List.Pairwise.nil, (fun _ h => nomatch h)⟩
      obtain ⟨ps, rfl, ht, yes, hco⟩ := st₂
      obtain ⟨ps', e, ht', no | ⟨c, oc, y1, y2, y3⟩⟩ := zi
      · cases e; rw [no] at yes; cases yes
      · exact ⟨c, oc, ⟨ps', e, ht', y1, y3⟩, y2⟩
    · exact ⟨h₅, t₅, [(c₂, oc₂)], oz₂, rfl, GG, ⟨_, _, rfl, rfl⟩, hz₅, ⟨st₂.st (.inr (.head _)), fun _ => ⟨c₂, oc₂, st₂, .inr (.head _)⟩⟩, fun p hp => by rw [List.mem_singleton.mp hp]; exact hc₅, List.pairwise_singleton _ _, fun p hp => by rw [List.mem_singleton.mp hp]; exact new⟩
  case z0 =>
    refine ⟨?_, fun h => absurd h (by decide)⟩
    obtain ⟨ps, e, ht, no | ⟨c, oc', y1, y2, y3⟩⟩ := st
    · exact ⟨ps, e, ht, .inl no⟩
    · refine ⟨ps, e, ht, .inr ⟨c, oc', y1, .inl ⟨S₁.all _ _ y2, fun q => ?_⟩, y3⟩⟩
      subst e; subst q
      rw [hz] at y2; cases y2
      exact tab_not_code ht y3
  case fin2 =>
    intro D h' t' ys fs k oz' md G' hh hn hp hz' ⟨_, hit⟩
    obtain ⟨c, oc', hit, kn⟩ := hit (by have := hr.len; omega)
    have hys := made_ints' md (fun i => (cs.getD i []).foldl (fun told p => told + ns.getD p.toNat 0) 0) (fun j v y fs hj pv ⟨n, tk, h2, h3⟩ => ⟨tk, by rw [h2, h3]⟩) (fun _ _ h => h)
    have hcl := hr.len
    have e : (List.range cvs.length).map (fun i => (cs.getD i []).foldl (fun told p => told + ns.getD p.toNat 0) 0) = cs.map (fun c => c.foldl (fun told p => told + ns.getD p.toNat 0) 0) := by
      rw [hcl]
      apply List.ext_getElem
      · simp
      · intro i h1 h2
        simp at h1
        simp [h1]
    rw [e] at hys
    have hD := hh (D, lst ys k) (List.mem_append_right _ (.head _))
    have nD := hn (D, lst ys k) (List.mem_append_right _ (.head _))
    have back : ∀ a, h₁.get? a = none → h.get? a = none := fun a q => by
      cases e : h.get? a with
      | none => rfl
      | some o => rw [S₁.all _ _ e] at q; cases q
    refine hQs _ _ (hQf _ _ ?_)
    refine ⟨h', t', D, ys, k, oz', c, oc', rfl, rfl, S₁.gr.weak.trans G', back _ nD, hD, hys, hz', hit, ?_, ?_, ?_⟩
    · rcases kn with ⟨k1, k2⟩ | k1
      · exact G'.one k2 k1
      · exact hh _ (List.mem_append_left _ k1)
    · rcases kn with ⟨k1, k2⟩ | k1
      · cases e : h.get? c with
        | none => exact .inr rfl
        | some o => have := S₁.all _ _ e; rw [k1] at this; cases this; exact .inl rfl
      · exact .inr (back _ (hn _ (List.mem_append_left _ k1)))
    · rcases kn with ⟨k1, k2⟩ | k1
      · exact none_ne nD k1
      · rw [List.map_append] at hp
        exact (List.pairwise_append.mp hp).2.2 _ (List.mem_map_of_mem (f := (·.1)) k1) _ (.head _)
end
end Mine
end
section
open PySem PySem.W PySem.W.X PyProof.Rows PySem.Calls
set_option maxRecDepth 100000
namespace Mine
section
variable {w : World} {mg mb : Str → Option Value} {g : Array GenState} {d : Drawn} {os : OsState}
noncomputable abbrev rngIt (i n : Nat) : Obj := { cls := .type "range_iterator", dict := none, data := .fields #[rawInt i, rawInt ((n : Int) - i), rawInt 1], slots := #[] }
theorem small_range {n : Nat} (hn : n ≤ 1000) : Builtin.Range.small 0 n 1 = true := by
  have : ∀ k : Fin 1001, Builtin.Range.small 0 (k.val : Int) 1 = true := by decide +kernel
  exact this ⟨n, by omega⟩
theorem size_range {n : Nat} (hn : n ≤ 1000) : Builtin.Range.rangeSize 0 n 1 = n := by
  have : ∀ k : Fin 1001, Builtin.Range.rangeSize 0 (k.val : Int) 1 = (k.val : Int) := by decide +kernel
  exact this ⟨n, by omega⟩
theorem Itr.range {A : Around} (hh : A.handled = none) (I n : Nat) :
    Itr w g d os A I n (fun i v => ∃ tk, v = .int i tk) (fun i o => o = rngIt i n) (fun _ => True) where
  item := fun i h o t Q E hi _ ho st q => by
    subst st
    refine wpAny_pyNext_range_item (x := i) (left := (n : Int) - i) (step := 1) ho (by omega) fun h' it sb => ?_
    refine q _ h' _ _ ⟨_, rfl⟩ it ?_ sb
    have e1 : ((i + 1 : Nat) : Int) = (i : Int) + 1 := by omega
    have e2 : (n : Int) - (i : Int) - 1 = (n : Int) - ((i + 1 : Nat) : Int) := by omega
    rw [rngIt, e2, e1]
  done := fun h o t Q E _ ho st q => by
    subst st
    exact wpAny_pyNext_range_end (x := n) (left := (n : Int) - n) (step := 1) hh ho (by omega) fun h' ex => q h' _ ex
  self := fun i h o t Q E ho st q => by
    subst st
    exact wpAny_pyIter_rangeiter ho q
/-- `range(n)` made and its iterator made: what stands then -/
theorem pyIter_range {A : Around} {E : Value → Shared → Prop} {Q : Value → Shared → Prop} {h : Heap} {t : Nat} {n : Nat} {tk : Tok} (hn : n ≤ 1000)
    (q : ∀ I h' t', Gr [] h h' → h.get? I = none → h'.get? I = some (rngIt 0 n) → Q (.ref I) ⟨h', g, d, t', os⟩) :
    wpAny (MM w) A (call (.type "range") [.int n tk]) (fun r s₁ => wpAny (MM w) A (pyIter r) Q E s₁) E ⟨h, g, d, t, os⟩ := by
  refine call_range_1 ?_
  refine wpAny_pyIter_range (IsRange.new _ _ _ _ _ _ _) (small_range hn) ?_
  rw [size_range hn]
  refine q _ _ _ ((Gr.push _ _ _).trans (Gr.push _ _ _)) ?_ ?_
  · exact Heap.get?_none_of_le (by show h.objs.size ≤ (h.push _).objs.size; rw [Heap.size_push]; omega)
  · have e : ((n : Int) - ((0 : Nat) : Int)) = (n : Int) := by omega
    rw [rngIt, e]
    exact Heap.get?_push_size _ rfl
end
end Mine
end
section
open PySem PySem.W PySem.W.X PyProof.Rows PySem.Calls
set_option maxRecDepth 100000
namespace Mine
section
variable {w : World} {mg mb : Str → Option Value} {g : Array GenState} {d : Drawn} {os : OsState}
noncomputable def flagKvs : List (Int × Value) := [(1, .str "OPTIMIZED" 190), (2, .str "NEWLOCALS" 192), (4, .str "VARARGS" 194), (8, .str "VARKEYWORDS" 196), (16, .str "NESTED" 198), (32, .str "GENERATOR" 200), (64, .str "NOFREE" 202), (128, .str "COROUTINE" 204), (256, .str "ITERABLE_COROUTINE" 206), (512, .str "ASYNC_GENERATOR" 208)]
noncomputable def flagTab : List (PyData × PyData) := [(.int 1, .str "OPTIMIZED"), (.int 2, .str "NEWLOCALS"), (.int 4, .str "VARARGS"), (.int 8, .str "VARKEYWORDS"), (.int 16, .str "NESTED"), (.int 32, .str "GENERATOR"), (.int 64, .str "NOFREE"), (.int 128, .str "COROUTINE"), (.int 256, .str "ITERABLE_COROUTINE"), (.int 512, .str "ASYNC_GENERATOR")]
theorem flags_tab {h : Heap} (W : Wd w mg mb h) : IntTab PR w h 15 flagTab := by
  refine TabAt.ofObj (kvs := flagKvs) rfl (W.k 15 _ rfl) ⟨_, _, ⟨rfl, rfl, rfl⟩, rfl, ?_, ?_, by decide⟩ ?_
  · intro e he
    have he' := Array.mem_toList_iff.mpr he
    simp only [List.mem_cons, List.not_mem_nil, or_false] at he'
    rcases he' with rfl | rfl | rfl | rfl | rfl | rfl | rfl | rfl | rfl | rfl <;> first | exact ⟨1, by rfl, by rfl⟩ | exact ⟨2, by rfl, by rfl⟩ | exact ⟨4, by rfl, by rfl⟩ | exact ⟨8, by rfl, by rfl⟩ | exact ⟨16, by rfl, by rfl⟩ | exact ⟨32, by rfl, by rfl⟩ | exact ⟨64, by rfl, by rfl⟩ | exact ⟨128, by rfl, by rfl⟩ | exact ⟨256, by rfl, by rfl⟩ | exact ⟨512, by rfl, by rfl⟩
  · repeat' (first | exact .nil | refine .cons (by rfl) rfl ?_)
  · repeat' (first | exact .nil | refine .cons (PyProof.V.Flat.str _ _) ?_)
end
end Mine
end
section
open PySem PySem.W PySem.W.X PyProof.Rows PySem.Calls
set_option maxRecDepth 100000
namespace Mine
noncomputable def flagName : Nat → Str
  | 0 => "OPTIMIZED" | 1 => "NEWLOCALS" | 2 => "VARARGS" | 3 => "VARKEYWORDS" | _ => "NESTED"
noncomputable def remF (f i : Nat) : Int := ((f / 2 ^ i * 2 ^ i : Nat) : Int)
noncomputable def wordsF (f i : Nat) : List Str := ((List.range i).filter fun j => f.testBit j).map flagName
noncomputable def wordsOf (f : Nat) : List Str := if f = 0 then ["0x0"] else wordsF f 5
theorem rem_facts : ∀ f : Fin 32, ∀ i : Fin 5, (Builtin.bitAnd (remF f i) (1 * 2 ^ (i : Int).toNat) != 0) = Nat.testBit f i ∧ (Nat.testBit f i = true → Builtin.bitXor (remF f i) (1 * 2 ^ (i : Int).toNat) = remF f (i + 1)) ∧ (Nat.testBit f i = false → remF f (i + 1) = remF f i) := by decide +kernel
theorem rem_zero : ∀ i : Fin 32, (Builtin.bitAnd 0 (1 * 2 ^ (i : Int).toNat) != 0) = false := by decide +kernel
theorem rem_top : ∀ f : Fin 32, ∀ i : Fin 6, remF f i = 0 → (f : Nat) = 0 ∨ wordsF f i = wordsF f 5 := by decide +kernel
theorem rem5 : ∀ f : Fin 32, remF f 5 = 0 := by decide +kernel
theorem flag_look : ∀ i : Fin 5, PySem.Spec.lookup (.int (1 * 2 ^ (i : Int).toNat)) flagTab = some (.str (flagName i)) := by
  rintro ⟨_ | _ | _ | _ | _ | n, h⟩
  · rfl
  · rfl
  · rfl
  · rfl
  · rfl
  · omega
theorem words_step (f i : Nat) : wordsF f (i + 1) = wordsF f i ++ (if f.testBit i then [flagName i] else []) := by
  unfold wordsF
  rw [List.range_succ, List.filter_append, List.map_append]
  congr 1
  by_cases h : f.testBit i <;> simp [h]
end Mine
end
section
open PySem PySem.W PySem.W.X PyProof.Rows PySem.Calls
set_option maxRecDepth 100000
namespace Mine
section
variable {w : World} {mg mb : Str → Option Value} {A : Around} {E : Value → Shared → Prop} {ts : List Addr} {h₀ h : Heap} {L : Addr} {m : Str → Option Value} {ow : Facts} {g : Array GenState} {d : Drawn} {t : Nat} {os : OsState} {env : Env} {x : Str} {v : Value} {pos : Pos}
/-- a method of a built-in kind, with arguments -/
theorem m_call {o e : Expr} {rest : List Expr} {name : Str} {apos pos : Pos} {T id : String} {s : Shared} {Q : Value → Shared → Prop} (pa : PlainAttrs T) (slot : Slot T name id) (hty : typeOf (.builtin id) = pure (.type "method_descriptor"))
    (h : wpAny (MM w) A (eval o env) (fun ov s₁ => s₁.TypeIs ov T ∧ (∀ a, ov = .ref a → ∃ ob, s₁.heap.get? a = some ob ∧ ob.dict = none) ∧
      wpAny (MM w) A (spliced (backTo pos (starEach (e :: rest) env))) (fun vs s₂ => wpAny (MM w) A (call (.builtin id) (ov :: vs)) Q E s₂) E s₁) E s)
    (hbase : attributeBase o name env (eval o env) = eval o env := by rfl)
    (hfew : ((backTo pos (starEach (e :: rest) env)).all (fun x => !x.1) && (backToKw pos (keywordEach [] env)).all (fun x => x.1.isSome)
      && decide ((e :: rest).length + ([] : List Keyword).length + (if ([] : List Keyword).isEmpty then 0 else 1) < 30)) = true := by rfl)
    (hline : (apos.endLine == pos.line) = true := by rfl)
    (he : starEach (e :: rest) env = (false, eval e env) :: starEach rest env := by rfl) (hplain : (backTo pos (starEach rest env)).any (·.1) = false := by rfl) :
    wpAny (MM w) A (eval (.Call (.Attribute o name apos) (e :: rest) [] pos) env) Q E s := by
  refine wpAny_Call_method hbase hfew hline pa slot hty (wpAny_mono h (fun ov s₁ h₁ => ⟨h₁.1, h₁.2.1, ?_⟩) fun _ _ e => e)
  have h₂ := h₁.2.2
  rw [he] at h₂ ⊢
  exact callWith_builtin (by show (false || (backTo pos (starEach rest env)).any (·.1)) = false; rw [hplain]; rfl) (evalArgs_plain h₂)
theorem load_loc {Q : Value → Shared → Prop} (S : Sta ts h₀ L m ow h) (hv : m x = some v) (q : Q v ⟨h, g, d, t, os⟩) (hL : env.locals = L := by rfl) (hk : env.scope.kind = .function := by rfl) (hl : env.kindOf x = some .local := by rfl) :
    wpAny (MM w) A (loadName env x) Q E ⟨h, g, d, t, os⟩ := wpAny_loadName_local (m := m) hk hl (by rw [hL]; exact S.ns) hv q
theorem no_dict {a : Addr} {o : Obj} (e : h.get? a = some o) (hd : o.dict = none) : ∀ b, (Value.ref a) = .ref b → ∃ ob, h.get? b = some ob ∧ ob.dict = none := fun b q => by cases q; exact ⟨o, e, hd⟩
end
section
variable {w : World} {mg mb : Str → Option Value} {g : Array GenState} {d : Drawn} {os : OsState}
theorem hex_size : ∀ i : Fin 5, (baseText "0x" 16 (1 * 2 ^ (i : Int).toNat)).length ≤ sizeLine := by decide +kernel
theorem hex_zero : baseText "0x" 16 0 = ("0x0" : Str) := by decide +kernel
theorem words_len (f i : Nat) : (wordsF f i).length ≤ i := by
  unfold wordsF; rw [List.length_map]; exact Nat.le_trans (List.length_filter_le _ _) (by simp)
theorem join_short : ∀ f : Fin 32, Builtin.Str.tooLong ((wordsOf f).toArray.foldl (· + ·.length + (", " : Str).length) 0) = false := by decide +kernel
theorem join_size : ∀ f : Fin 32, (Builtin.Str.glued ", " (wordsOf f)).length ≤ sizeLine := by decide +kernel
theorem rem_start (f : Nat) : remF f 0 = f := by simp [remF]
theorem rem_of_zero (i : Nat) : remF 0 i = 0 := by simp [remF]
theorem words_of_zero (i : Nat) : wordsF 0 i = [] := by simp [wordsF]
theorem rem_all {f i : Nat} (hf : f < 32) (hi : i < 32) (hz : f = 0 ∨ (i < 5 ∧ remF f i ≠ 0)) : (Builtin.bitAnd (remF f i) (1 * 2 ^ (i : Int).toNat) != 0) = (decide (i < 5) && f.testBit i) := by
  rcases hz with rfl | ⟨h5, _⟩
  · rw [rem_of_zero, rem_zero ⟨i, hi⟩]; simp
  · rw [(rem_facts ⟨f, hf⟩ ⟨i, h5⟩).1]; simp [h5]
noncomputable def PInv (g : Array GenState) (d : Drawn) (os : OsState) (h : Heap) (I : Addr) (f : Nat) : Nat → Shared → Prop := fun j s => ∃ i m D l k hc tc rt, s = ⟨hc, g, d, tc, os⟩ ∧ j = 33 - i ∧ i ≤ 32 ∧ Sta [] h h.objs.size m [(D, lst (strValues l) k), (I, rngIt i 32)] hc ∧
      m "names" = some (.ref D) ∧ m "flags" = some (.int (remF f i) rt) ∧ l.map (·.1) = wordsF f i ∧ (f = 0 ∨ (i < 5 ∧ remF f i ≠ 0))
noncomputable def PMid (g : Array GenState) (d : Drawn) (os : OsState) (h : Heap) (f : Nat) : Flow → Shared → Prop := fun fl s' => fl = .next ∧ ∃ h' t' m' ow' D l k, s' = ⟨h', g, d, t', os⟩ ∧ Sta [] h h.objs.size m' ow' h' ∧ m' "names" = some (.ref D) ∧ (D, lst (strValues l) k) ∈ ow' ∧ l.map (·.1) = wordsOf f
set_option maxHeartbeats 4000000 in
theorem pretty_spec {A : Around} {E : Value → Shared → Prop} {f : Nat} {tf : Tok} {h : Heap} {t : Nat} (hf : f < 32)
    (R : RoomN 1 20 A) (W : Wd w mg mb h) :
    wpAny (MM w) A (call (.ref 22) [.int f tf]) (Back [] g d os h fun v _ => ∃ tk, v = .str (Builtin.Str.glued ", " (wordsOf f)) tk) E ⟨h, g, d, t, os⟩ := by
  refine wpAny_call (codeAny_call_def (binds := [("flags", .int f tf)]) R.lim (W.k 22 _ rfl) rfl W.lim (codeRec_of W.k rfl) rfl (BindsTo.of_eq rfl) (by decide) (locs rfl) (fun h₁ hns hk => ?_))
  have S₁ := Sta.mk' (ts := []) (Gr.of hk) (size_none h) hns
  have W₁ := W.gr Tabs.nil S₁.gr
  refine wp_gen2 fun Qf Ef hQf => ?_
  refine wpAny_execs_cons (wpAny_Assign_Name (wpAny_List (wpAny_items_nil ⟨by show 0 ≤ sizeLine; decide, ?_⟩)))
  have S₂ := S₁.push (lst [] 0) rfl
  refine s_loc S₂ fun h₃ S₃ => ?_
  have W₃ := W.gr Tabs.nil S₃.gr
  refine wpAny_execs_cons (wpAny_mono (Q := PMid g d os h f) ?loop ?rest (fun _ _ e => e))
  case rest =>
    rintro fl s' ⟨rfl, h₅, t₅, m₅, ow₅, D, l, k, rfl, S₅, mn, hD, hl⟩
    have L₅ := S₅.own _ hD
    dsimp only
    refine wpAny_execs_cons (wp_gen fun Qs hQs => ?_)
    refine wpAny_Return_some ?_
    refine m_call F.plainAttrs_str F.slot_str_join F.type_str_join ?_
    refine wpAny_Constant_str ⟨?_, (fun a q => nomatch q), ?_⟩
    · exact rfl
    refine wpAny_items_cons ?_
    refine n_loc S₅ mn ?_
    refine wpAny_items_nil ?_
    refine call_meets F.slot_str_join ?_ F.entry_str_join (F.args_str_join_2 _ _) (meets_str_join_list _ _ D l (by rw [hl]; exact join_short ⟨f, hf⟩)) ⟨lst_is L₅, ?_⟩
    · exact rfl
    have key : ∀ l : List (Str × Tok), l.map (·.1) = wordsOf f → (∀ tk t', Qs (.ret (.str (Builtin.Str.glued ", " (l.map (·.1))) tk)) ⟨h₅, g, d, t', os⟩) := fun l e tk t' => hQs _ _ (hQf _ _ ⟨h₅, t', rfl, S₅.gr, tk, by rw [e]⟩)
    have sz : ∀ l : List (Str × Tok), l.map (·.1) = wordsOf f → (Builtin.Str.glued ", " (l.map (·.1))).length ≤ sizeLine := fun l e => by rw [e]; exact join_size ⟨f, hf⟩
    rcases l with _ | ⟨p, _ | ⟨q, l⟩⟩
    · exact ⟨sz [] hl, key [] hl _ _⟩
    · have e : Builtin.Str.glued ", " ([p].map (·.1)) = p.1 := rfl
      have := key [p] hl p.2 (t₅ + 1)
      rw [e] at this
      exact this
    · exact ⟨sz (p :: q :: l) hl, key (p :: q :: l) hl _ _⟩
  case loop =>
    refine wpAny_For ?_
    refine wpAny_Call_Name_kw ?_
    refine n_blt W₃ rfl rfl ?_
    refine c_call keeps_type ?_
    refine wpAny_items_cons ?_
    refine wpAny_Constant_int ?_
    refine wpAny_items_nil ⟨trivial, ?_⟩
    refine pyIter_range (n := 32) (by decide) fun I h₄ t₄ G₄ nI hI => ?_
    have S₄ := S₃.add G₄ nI hI
    have S₅ := S₄.toEnd
    refine codeAny_forLoop_any (PInv g d os h I f) ?turn 33 ⟨0, _, _, [], 0, h₄, t₄, tf, rfl, rfl, by decide, S₅, rfl, ?f0, rfl, ?f1⟩
    case f0 => show some (Value.int (f : Int) tf) = _; rw [rem_start]
    case f1 =>
      by_cases z : f = 0
      · exact .inl z
      · exact .inr ⟨by decide, by rw [rem_start]; omega⟩
    case turn =>
      rintro j s ⟨i, m, D, l, k, hc, tc, rt, rfl, rfl, hi, S, mn, mf, hl, hz⟩
      have hI := S.own (I, rngIt i 32) (by simp)
      by_cases hlt : i < 32
      · refine (Itr.range (w := w) (g := g) (d := d) (os := os) (by exact R.h) I 32).item i hc _ _ _ _ hlt trivial hI rfl ?_
        rintro v h₅ o₅ t₅ ⟨tk, rfl⟩ ho₅ rfl sb
        have S₅ := S.upd 1 (by rfl) sb ho₅
        dsimp only
        refine wpAny_of_eq (a := ()) rfl ?_
        refine wpAny_assign_Name (s_loc S₅ fun h₆ S₆ => ?_)
        refine wp_gen fun Qb hQb => ?_
        refine wpAny_execs_cons ?_
        refine wpAny_Assign_Name ?_
        refine wpAny_BinOp ?_
        refine wpAny_Constant_int ?_
        refine n_loc S₆ rfl ?_
        refine lshift_int_small (by omega) (by omega) (by decide) ?_
        refine s_loc S₆ fun h₇ S₇ => ?_
        have W₇ := W.gr Tabs.nil S₇.gr
        refine wpAny_execs_cons ?_
        refine wpAny_If ?_
        refine isTrue_plain ?_
        refine wpAny_BinOp ?_
        refine n_loc S₇ mf ?_
        refine n_loc S₇ rfl ?_
        refine and_int ?_
        refine truthy_int ?_
        rw [rem_all hf hlt hz]
        by_cases hb : i < 5 ∧ f.testBit i = true
        · have e1 : (decide (i < 5) && f.testBit i) = true := by simp [hb.1, hb.2]
          rw [e1]
          simp only [if_true]
          have L₇ := S₇.own _ (.head _)
          refine wpAny_execs_cons ?_
          refine wpAny_Expr (m_call F.plainAttrs_list F.slot_list_append F.type_list_append ?_)
          refine n_loc S₇ mn ⟨(lst_is L₇).typeIs, no_dict L₇ rfl, ?_⟩
          refine wpAny_items_cons ?_
          refine m_call F.plainAttrs_dict F.slot_dict_get F.type_dict_get ?_
          refine n_glob W₇ rfl ⟨⟨_, W₇.k 15 _ rfl, rfl⟩, no_dict (W₇.k 15 _ rfl) rfl, ?_⟩
          refine wpAny_items_cons ?_
          refine n_loc S₇ rfl ?_
          refine wpAny_items_cons ?_
          refine wpAny_Call_Name_kw ?_
          refine n_blt W₇ rfl rfl ?_
          refine c_call keeps_blt ?_
          refine wpAny_items_cons ?_
          refine n_loc S₇ rfl ?_
          refine wpAny_items_nil ⟨trivial, ?_⟩
          refine P.hex_of_int ?_ (hex_size ⟨i, hb.1⟩)
          refine wpAny_items_nil ?_
          refine call_get2_intTab (flags_tab W₇) (PyProof.V.Flat.str _ _) fun v hv => ?_
          have hlk := flag_look ⟨i, hb.1⟩
          dsimp only at hlk
          rw [hlk] at hv
          obtain ⟨u, rfl⟩ : ∃ u, v = .str (flagName i) u := by have := hv hc; cases this; exact ⟨_, rfl⟩
          refine wpAny_items_nil ?_
          refine wpAny_list_append_plain ⟨k, L₇⟩ (fun h₈ pl sb₈ => ?_) (by rw [List.size_toArray, strValues, List.length_map, ← List.length_map (f := (·.1)), hl, sizeLine_eq]; have := words_len f i; omega)
          obtain ⟨k', ho₈⟩ := pl
          have ho₈' : h₈.get? D = some (lst (strValues (l ++ [(flagName i, u)])) k') := by rw [ho₈]; simp [strValues]
          have S₈ := S₇.upd 0 (by rfl) sb₈ ho₈'
          dsimp only
          have hl' : (l ++ [(flagName i, u)]).map (·.1) = wordsF f (i + 1) := by rw [words_step, if_pos hb.2, List.map_append, hl]; rfl
          refine wpAny_execs_cons ?_
          refine wpAny_AugAssign_Name ?_
          refine load_loc S₈ mf ?_
          refine n_loc S₈ rfl ?_
          refine ixor_int ?_
          rw [((rem_facts ⟨f, hf⟩ ⟨i, hb.1⟩).2.1 hb.2)]
          refine s_loc S₈ fun h₉ S₉ => ?_
          dsimp only
          refine wpAny_execs_cons ?_
          refine wpAny_If ?_
          refine isTrue_not ?_
          refine isTrue_plain ?_
          refine n_loc S₉ rfl ?_
          refine truthy_int ?_
          by_cases hz' : remF f (i + 1) = 0
          · rw [hz']
            simp only [bne_self_eq_false, Bool.not_false, if_true]
            refine wpAny_execs_cons ?_
            refine wpAny_Break ?_
            dsimp only
            refine hQb _ _ ?_
            refine ⟨rfl, h₉, _, _, _, D, _, k', rfl, S₉, mn, .head _, ?_⟩
            rw [hl']
            rcases rem_top ⟨f, hf⟩ ⟨i + 1, by omega⟩ hz' with q | q
            · dsimp only at q; subst q; have := hb.2; simp at this
            · dsimp only at q; rw [q, wordsOf, if_neg]; intro q; subst q; have := hb.2; simp at this
          · have e2 : (!(remF f (i + 1) != 0)) = false := by simp [hz']
            rw [e2]
            simp only [Bool.false_eq_true, if_false]
            refine wpAny_execs_nil (wpAny_execs_nil (wpAny_execs_nil ?_))
            refine hQb _ _ ?_
            refine ⟨33 - (i + 1), by omega, i + 1, _, D, _, k', h₉, _, _, rfl, rfl, hlt, S₉, mn, rfl, hl', .inr ⟨?_, hz'⟩⟩
            by_cases q : i + 1 < 5
            · exact q
            · have e : i + 1 = 5 := by omega
              rw [e] at hz'; exact absurd (rem5 ⟨f, hf⟩) hz'
        · have e1 : (decide (i < 5) && f.testBit i) = false := by
            rw [Bool.eq_false_iff]; intro q; rw [Bool.and_eq_true, decide_eq_true_eq] at q; exact hb q
          rw [e1]
          simp only [Bool.false_eq_true, if_false]
          refine wpAny_execs_nil (wpAny_execs_nil ?_)
          have es : remF f (i + 1) = remF f i ∧ wordsF f (i + 1) = wordsF f i := by
            rcases hz with rfl | ⟨h5, _⟩
            · simp [rem_of_zero, words_of_zero]
            · have nb : f.testBit i = false := by rw [Bool.eq_false_iff]; exact fun q => hb ⟨h5, q⟩
              exact ⟨(rem_facts ⟨f, hf⟩ ⟨i, h5⟩).2.2 nb, by rw [words_step, nb]; simp⟩
          refine hQb _ _ ?_
          refine ⟨33 - (i + 1), by omega, i + 1, _, D, _, k, h₇, _, rt, rfl, rfl, hlt, S₇, mn, ?_, by rw [es.2]; exact hl, ?_⟩
          · rw [es.1]; exact mf
          · rw [es.1]
            rcases hz with z | ⟨h5, hr⟩
            · exact .inl z
            · refine .inr ⟨?_, hr⟩
              by_cases q : i + 1 < 5
              · exact q
              · have e : i + 1 = 5 := by omega
                rw [← es.1, e] at hr; exact absurd (rem5 ⟨f, hf⟩) hr
      · have hin : i = 32 := by omega
        subst hin
        have f0 : f = 0 := by rcases hz with z | ⟨z, _⟩ <;> omega
        subst f0
        refine (Itr.range (w := w) (g := g) (d := d) (os := os) (by exact R.h) I 32).done hc _ _ _ _ trivial hI rfl ?_
        intro h₅ t₅ ex
        have S₅ := S.ext 1 (by rfl) ex
        have W₅ := W.gr Tabs.nil S₅.gr
        have L₅ := S₅.own _ (.head _)
        dsimp only
        refine wpAny_execs_cons ?_
        refine wpAny_Expr (m_call F.plainAttrs_list F.slot_list_append F.type_list_append ?_)
        refine n_loc S₅ mn ⟨(lst_is L₅).typeIs, no_dict L₅ rfl, ?_⟩
        refine wpAny_items_cons ?_
        refine wpAny_Call_Name_kw ?_
        refine n_blt W₅ rfl rfl ?_
        refine c_call keeps_blt ?_
        refine wpAny_items_cons ?_
        refine n_loc S₅ mf ?_
        refine wpAny_items_nil ⟨trivial, ?_⟩
        rw [rem_of_zero]
        refine P.hex_of_int ?_ (by rw [hex_zero]; decide)
        rw [hex_zero]
        refine wpAny_items_nil ?_
        refine wpAny_list_append_plain ⟨k, L₅⟩ (fun h₈ pl sb₈ => ?_) (by rw [List.size_toArray, strValues, List.length_map, ← List.length_map (f := (·.1)), hl, sizeLine_eq]; have := words_len 0 32; omega)
        obtain ⟨k', ho₈⟩ := pl
        have ho₈' : h₈.get? D = some (lst (strValues (l ++ [(("0x0" : Str), t₅)])) k') := by rw [ho₈]; simp [strValues]
        have S₈ := S₅.upd 0 (by rfl) sb₈ ho₈'
        dsimp only
        refine wpAny_execs_nil ?_
        refine ⟨rfl, h₈, _, _, _, D, _, k', rfl, S₈, mn, .head _, ?_⟩
        rw [List.map_append, hl, words_of_zero, wordsOf, if_pos rfl]
        rfl
end
end Mine
end
section
open PySem PySem.W PySem.W.X PyProof.Rows PySem.Calls
set_option maxRecDepth 100000
namespace Mine
section
variable {α : Type} {w : World} {A : Around} {c : Code} {Q : α → Shared → Prop} {E : Value → Shared → Prop} {h h₀ : Heap} {g : Array GenState} {d : Drawn} {t : Nat} {os : OsState} {chg news : List (Addr × Obj)}
theorem o_pure {a : α} (x : Q a ⟨h, g, d, t, os⟩) : wpOwn (MM w) A c (Sem.pure a) Q E ⟨h, g, d, t, os⟩ := y_pure _ _ _ _ _ _ _ _ _ x
theorem o_skim {tr : Sem α} (x : wpOwn (MM w) A c (skim ⟨PR, w.params⟩ 400 tr) Q E ⟨h, g, d, t, os⟩) : wpOwn (MM w) A c tr Q E ⟨h, g, d, t, os⟩ := y_skim _ _ _ _ _ _ _ _ _ 400 x
theorem o_rule {tag : String} {k : Unit → Sem α} (x : wpOwn (MM w) A c (k ()) Q E ⟨h, g, d, t, os⟩) : wpOwn (MM w) A c (.rule tag k) Q E ⟨h, g, d, t, os⟩ := y_skim _ _ _ _ _ _ _ _ _ 1 x
theorem o_at {p : Pos} {k : Unit → Sem α} (x : wpOwn (MM w) A c (k ()) Q E ⟨h, g, d, t, os⟩) : wpOwn (MM w) A c (.at p k) Q E ⟨h, g, d, t, os⟩ := y_skim _ _ _ _ _ _ _ _ _ 1 x
theorem o_point {l : List Value} {k : Unit → Sem α} (x : wpOwn (MM w) A c (k ()) Q E ⟨h, g, d, t, os⟩) : wpOwn (MM w) A c (.point l k) Q E ⟨h, g, d, t, os⟩ := y_skim _ _ _ _ _ _ _ _ _ 1 x
theorem o_ask {k : Setting → Sem α} (x : wpOwn (MM w) A c (k ⟨PR, w.params⟩) Q E ⟨h, g, d, t, os⟩) : wpOwn (MM w) A c (.ask k) Q E ⟨h, g, d, t, os⟩ := y_skim _ _ _ _ _ _ _ _ _ 1 x
theorem o_load {a : Addr} {q : Option Value} {k : Obj → Sem α} {o : Obj} (ho : h.get? a = some o) (x : wpOwn (MM w) A c (k o) Q E ⟨h, g, d, t, os⟩) : wpOwn (MM w) A c (.load a q k) Q E ⟨h, g, d, t, os⟩ := y_load _ _ _ _ _ _ _ _ _ _ _ _ _ _ _ _ ho x
theorem o_fresh {k : Tok → Sem α} (x : wpOwn (MM w) A c (k t) Q E ⟨h, g, d, t + 1, os⟩) : wpOwn (MM w) A c (.fresh k) Q E ⟨h, g, d, t, os⟩ := y_fresh _ _ _ _ _ _ _ _ _ _ _ _ _ x
theorem o_alloc {o : Obj} {k : Addr → Sem α} (D : Mem h₀ h chg news) (hf : o.isFreed = false) (x : ∀ a h', Mem h₀ h' chg ((a, o) :: news) → wpOwn (MM w) A c (k a) Q E ⟨h', g, d, t, os⟩) : wpOwn (MM w) A c (.alloc o k) Q E ⟨h, g, d, t, os⟩ := y_alloc _ _ _ _ _ _ _ _ _ _ _ _ _ _ _ _ _ D hf x
theorem o_update {a : Addr} {q : Option Value} {f : Obj → Obj} {k : Unit → Sem α} {o o' : Obj} (D : Mem h₀ h chg news) (i : Nat) (hi : news[i]? = some (a, o)) (ho : f o = o') (hf : o'.isFreed = false) (x : ∀ h', Mem h₀ h' chg (news.set i (a, o')) → wpOwn (MM w) A c (k ()) Q E ⟨h', g, d, t, os⟩) : wpOwn (MM w) A c (.update a q f k) Q E ⟨h, g, d, t, os⟩ := by
  subst ho; exact y_update _ _ _ _ _ _ _ _ _ _ _ _ _ _ _ _ _ _ _ _ D i hi hf x
theorem o_handled {k : Option Value → Sem α} (x : wpOwn (MM w) A c (k A.handled) Q E ⟨h, g, d, t, os⟩) : wpOwn (MM w) A c (.handled false k) Q E ⟨h, g, d, t, os⟩ := y_handled _ _ _ _ _ _ _ _ _ x
theorem o_stack {k : List (Code × Pos) → Sem α} (x : ∀ (p : Pos) (below : List (Code × Pos)), Lies (A.under c) ((c, p) :: below) → wpOwn (MM w) A c (k ((c, p) :: below)) Q E ⟨h, g, d, t, os⟩) : wpOwn (MM w) A c (.stack k) Q E ⟨h, g, d, t, os⟩ := y_stack _ _ _ _ _ _ _ _ _ x
theorem o_call {c' : Code} {hd : Option Value} {gd : Bool} {l : List Value} {k : Result → Sem α} (x : codeAny (MM w) ((A.under c).mark hd) c' (postR PR w A c Q E k) ⟨h, g, d, t, os⟩) (hnb : hd ≠ some byPass := by first | (intro h; cases h) | simp [byPass]) : wpOwn (MM w) A c (.call c' hd gd l k) Q E ⟨h, g, d, t, os⟩ := y_call _ _ _ _ _ _ _ _ _ _ _ _ _ hnb x
theorem o_grow {a : Addr} {q : Option Value} {f : Obj → Obj} {k : Unit → Sem α} {c₀ : Addr} {ps more : Array Value} (D : Mem h₀ h chg news) (ht : h₀.TableAt c₀ a ps) (hw : away chg a = true)
    (hn : f (tableObj ps) = tableObj (ps ++ more)) (x : ∀ h', Mem h₀ h' ((a, tableObj (ps ++ more)) :: chg) news → wpOwn (MM w) A c (k ()) Q E ⟨h', g, d, t, os⟩) : wpOwn (MM w) A c (.update a q f k) Q E ⟨h, g, d, t, os⟩ := y_grow _ _ _ _ _ _ _ _ _ _ _ _ _ _ _ _ _ _ _ _ _ _ D ht hw hn x
theorem o_start {args : List Value} {f : Value} {A : Around} {Q : Value → Shared → Prop} (x : codeAny (MM w) A (.call f ⟨args, []⟩) (wants Q E) ⟨h, g, d, t, os⟩) : wpAny (MM w) A (call f args) Q E ⟨h, g, d, t, os⟩ := wpAny_call x
theorem o_done {A' : Around} {R : Result → Shared → Prop} {s : Shared} {f : Flow} (x : R (.ok f) s) : postC PR w A' R (.done f) s := x
theorem o_again {A' : Around} {R : Result → Shared → Prop} {s : Shared} {c' : Code} (hq : c'.quiet = true) (x : codeAny (MM w) A' c' R s) : postC PR w A' R (.again c') s := ⟨hq, x⟩
theorem o_ret {s : Shared} {k : Result → Sem α} {r : Result} (x : wpOwn (MM w) A c (k r) Q E s) : postR PR w A c Q E k r s := x
theorem o_room {F : Bool → Sem α} {st : List (Code × Pos)} (l : Lies A st) (hu : A.units < cLine) (x : wpOwn (MM w) A c (F false) Q E ⟨h, g, d, t, os⟩) : wpOwn (MM w) A c (F (X.oRoom.1 st)) Q E ⟨h, g, d, t, os⟩ := by rw [l.room hu]; exact x
theorem o_code {A' : Around} {R : Result → Shared → Prop} {c' : Code} (x : wpOwn (MM w) A' c' (denote XFast.tableX c') (postC PR w A' R) (postE R) ⟨h, g, d, t, os⟩) : codeAny (MM w) A' c' R ⟨h, g, d, t, os⟩ := by
  rw [← XFast.tableX_eq] at x
  exact y_code _ _ _ _ _ _ x
end
end Mine
end
section
open PySem PySem.W PySem.W.X PyProof.Rows PySem.Calls
set_option maxRecDepth 100000
namespace Mine
theorem mro_type : mroOf (.type "type") = pure [.type "type", .type "object"] := by rw [mroOf_type]; kernel_rfl
theorem look_type_new : typeLookup (.type "type") "__new__" = pure (some (.builtin "type.__new__")) := by rw [typeLookup_type, builtinLookup_eq_fast]; kernel_rfl
theorem made_type : Bind.madeBy (.type "type") = pure (some "type.__new__") := madeBy_type mro_type look_type_new (by decide +kernel)
theorem slot_type_init : Slot "type" "__init__" "type.__init__" := .of (owner := "type") (n := "__init__") (by rw [typeLookup_type, builtinLookup_eq_fast]; kernel_rfl) (by decide +kernel) (by decide +kernel) (by decide +kernel)
  (by first | exact .inl (by decide +kernel) | exact .inr (by decide +kernel)) (by rw [isSubtype_type]; kernel_rfl)
theorem newArgs_type (b c d : Value) : checkBuiltinCall "type.__new__" ⟨[.type "type", b, c, d], []⟩ = pure () := by kernel_rfl
theorem initArgs_type (a b c d : Value) : argsOk "type.__init__" ⟨[a, b, c, d], []⟩ := by unfold argsOk; kernel_rfl
theorem entry_type_new : entryFor table "type.__new__" = some Builtin.«type.__new__» := entryFor_of_tree (by kernel_rfl)
theorem entry_type_init : entryFor table "type.__init__" = some Builtin.«type.__init__» := entryFor_of_tree (by kernel_rfl)
theorem plain_type_new : plainId "type.__new__" = true := by decide +kernel
section
variable {w : World} {g : Array GenState} {d : Drawn} {os : OsState}
set_option maxHeartbeats 4000000 in
theorem tcall {A : Around} {E : Value → Shared → Prop} {Q Q₁ : Value → Shared → Prop} {h : Heap} {t tk : Nat} {bt ns : Addr} 
    (hnew : codeAny (MM w) A.in1 (.call (.builtin "type.__new__") ⟨[.type "type", .str "K" tk, .ref bt, .ref ns], []⟩) (wants Q₁ E) ⟨h, g, d, t, os⟩)
    (hnext : ∀ obj s₁, Q₁ obj s₁ → s₁.TypeIs obj "type" ∧ Q obj s₁) :
    wpAny (MM w) A (call (.type "type") [.str "K" tk, .ref bt, .ref ns]) Q E ⟨h, g, d, t, os⟩ := by
  refine wpAny_call (codeAny_of_tree ?_)
  show wpAny _ _ (callAny (.type "type") _) _ _ _
  refine wpAny_pure ⟨Code.quiet_builtin _ (by decide +kernel), codeAny_builtin F.entry_type_call ?_⟩
  rw [Around.under_plain (weight_type_call_type "type" [.str "K" tk, .ref bt, .ref ns] []) rfl]
  unfold Builtin.«type.__call__»
  have e1 := mro_type
  have e2 := made_type
  repeat (any_goals (first | assumption | wp_step))
  refine codeAny_mono hnew fun r s₁ hr => ?_
  cases r with
  | error e => exact hr
  | ok fl =>
    cases fl with
    | ret obj =>
      obtain ⟨hT, hq⟩ := hnext _ _ hr
      have hli := slot_type_init.lookup
      have hbi := slot_type_init.bind obj
      have hsub : isSubtype (.type "type") (.type "type") = pure true := by rw [isSubtype_type]; kernel_rfl
      repeat (any_goals (first | assumption | wp_step))
      refine codeAny_mono (codeAny_call_builtin slot_type_init.plain entry_type_init (R := wants (fun r s₂ => r = .none ∧ Q obj s₂) E) (slot_type_init.check _ _ _ _ _ _ _ _ hT (initArgs_type _ _ _ _) ?_)) fun r₂ s₂ hr₂ => ?_
      · unfold Builtin.«type.__init__»
        repeat (any_goals (first | assumption | wp_step))
        exact ⟨rfl, hq⟩
      · cases r₂ with
        | error e => exact hr₂
        | ok fl₂ =>
          cases fl₂ with
          | ret r =>
            obtain ⟨rfl, hq⟩ := hr₂
            repeat (any_goals (first | assumption | wp_step))
          | _ => exact hr₂.elim
    | _ => exact hr.elim
theorem tnew {A : Around} {E : Value → Shared → Prop} {Q₁ : Value → Shared → Prop} {h : Heap} {t tk : Nat} {bt ns : Addr}
    (H : codeAny (MM w) A (.builtin "type.__new__" ⟨[.type "type", .str "K" tk, .ref bt, .ref ns], []⟩) (wants Q₁ E) ⟨h, g, d, t, os⟩) :
    codeAny (MM w) A (.call (.builtin "type.__new__") ⟨[.type "type", .str "K" tk, .ref bt, .ref ns], []⟩) (wants Q₁ E) ⟨h, g, d, t, os⟩ := by
  refine codeAny_of_tree ?_
  show wpAny _ _ (do checkBuiltinCall "type.__new__" ⟨[.type "type", .str "K" tk, .ref bt, .ref ns], []⟩; again (.builtin "type.__new__" ⟨[.type "type", .str "K" tk, .ref bt, .ref ns], []⟩)) _ _ _
  exact wpAny_bind (wpAny_of_eq (newArgs_type _ _ _) (wpAny_pure ⟨plainId_quiet plain_type_new _, H⟩))
end
end Mine
end
section
open PySem PySem.W PySem.W.X PyProof.Rows PySem.Calls
set_option maxRecDepth 100000
namespace Mine
theorem st_tuple : isSubtype (.type "tuple") (.type "tuple") = pure true := by rw [isSubtype_type]; kernel_rfl
theorem st_dict : isSubtype (.type "dict") (.type "dict") = pure true := by rw [isSubtype_type]; kernel_rfl
theorem st_type : isSubtype (.type "type") (.type "type") = pure true := by rw [isSubtype_type]; kernel_rfl
theorem st_object : isSubtype (.type "object") (.type "object") = pure true := by rw [isSubtype_type]; kernel_rfl
theorem ty_object : typeOf (.type "object") = pure (.type "type") := by kernel_rfl
theorem mro_object : mroOf (.type "object") = pure [.type "object"] := by rw [mroOf_type]; kernel_rfl
theorem look_object_new : typeLookup (.type "object") "__new__" = pure (some (.builtin "object.__new__")) := by rw [typeLookup_type, builtinLookup_eq_fast]; kernel_rfl
theorem look_object_weak : typeLookup (.type "object") "__weakref__" = pure none := by rw [typeLookup_type, builtinLookup_eq_fast]; kernel_rfl
theorem look_dict_iter : typeLookup (.type "dict") "__iter__" = pure (some (.builtin "dict.__iter__")) := by rw [typeLookup_type, builtinLookup_eq_fast]; kernel_rfl
theorem look_type_mro : typeLookup (.type "type") "mro" = pure (some (.builtin "type.mro")) := by rw [typeLookup_type, builtinLookup_eq_fast]; kernel_rfl
theorem look_fn_setname : typeLookup (.type "function") "__set_name__" = pure none := by rw [typeLookup_type, builtinLookup_eq_fast]; kernel_rfl
theorem look_str_setname : typeLookup (.type "str") "__set_name__" = pure none := by rw [typeLookup_type, builtinLookup_eq_fast]; kernel_rfl
theorem look_int_setname : typeLookup (.type "int") "__set_name__" = pure none := by rw [typeLookup_type, builtinLookup_eq_fast]; kernel_rfl
theorem look_list_setname : typeLookup (.type "list") "__set_name__" = pure none := by rw [typeLookup_type, builtinLookup_eq_fast]; kernel_rfl
theorem look_tuple_setname : typeLookup (.type "tuple") "__set_name__" = pure none := by rw [typeLookup_type, builtinLookup_eq_fast]; kernel_rfl
theorem look_none_setname : typeLookup (.type "NoneType") "__set_name__" = pure none := by rw [typeLookup_type, builtinLookup_eq_fast]; kernel_rfl
theorem look_member_setname : typeLookup (.type "member_descriptor") "__set_name__" = pure none := by rw [typeLookup_type, builtinLookup_eq_fast]; kernel_rfl
theorem made_object : Bind.madeBy (.type "object") = pure (some "object.__new__") := madeBy_type mro_object look_object_new (by decide +kernel)
theorem weak_object : Builtin.Slots.givesWeak (.type "object") = pure false := by unfold Builtin.Slots.givesWeak; rw [mro_object, look_object_weak]; kernel_rfl
theorem solid_object : Builtin.Slots.solid (.type "object") = pure (.type "object") := by kernel_rfl
end Mine
namespace Mine
theorem own_object_new : classOwn (.type "object") "__new__" = pure (some (.builtin "object.__new__")) := by kernel_rfl
theorem own_object_init_subclass : classOwn (.type "object") "__init_subclass__" = pure (some (.builtin "object.__init_subclass__")) := by kernel_rfl
end Mine
namespace Mine
theorem ty_init_subclass : typeOf (.builtin "object.__init_subclass__") = pure (.type "classmethod_descriptor") := by show builtinType _ = _; rw [builtinType_eq_fast]; kernel_rfl
theorem look_cmd_get : typeLookup (.type "classmethod_descriptor") "__get__" = pure (some (.builtin "classmethod_descriptor.__get__")) := by rw [typeLookup_type, builtinLookup_eq_fast]; kernel_rfl
end Mine
end
section
open PySem PySem.W PySem.W.X PyProof.Rows PySem.Calls
set_option maxRecDepth 100000
namespace Mine
noncomputable abbrev supO (K : Addr) : Obj := { cls := .type "super", data := .fields #[.ref K, .ref K, .ref K] }
noncomputable abbrev bndO (K : Addr) : Obj := { cls := .type "builtin_function_or_method", data := .fields #[.builtin "object.__init_subclass__", .ref K] }
section
variable {prog : Program} {w : World} {g : Array GenState} {d : Drawn} {os : OsState}
local macro_rules | `(tactic| x_close) => `(tactic| (refine ⟨_, _, _, rfl, rfl, mem_gr (by assumption), Mem.at (by assumption) 0 _ _ rfl, (Mem.nw (by assumption) _ (.head _)).2⟩))
set_option maxHeartbeats 0 in
theorem super_AX {E : Value → Shared → Prop} {h : Heap} {t : Nat} {K bt nd : Addr} {tk t1' : Tok} (hK : h.get? K = some { cls := .type "type", data := .cls { name := "K", bases := [.type "object"], mro := [.ref K, .type "object"], ns := nd, qualname := "cmp_to_key.<locals>.K", hasDict := false, slotNames := ["obj"] }, slots := #[some (.ref bt), none, some (.str "K" tk), some (.str "cmp_to_key.<locals>.K" t1'), some (.builtin "object.__new__"), some (.bool false)] }) :
    wpAny (model prog w) AX (call (.type "super") [.ref K, .ref K]) (fun v s' => ∃ so h' t', v = .ref so ∧ s' = ⟨h', g, d, t', os⟩ ∧ Gr [] h h' ∧ h'.get? so = some (supO K) ∧ h.get? so = none) E ⟨h, g, d, t, os⟩ := by
  x_run
end
section
variable {prog : Program} {w : World} {g : Array GenState} {d : Drawn} {os : OsState}
local macro_rules | `(tactic| x_close) => `(tactic| (refine ⟨_, _, rfl, ?_⟩; first | exact Gr.refl _ _ | exact mem_gr (by assumption)))
set_option maxHeartbeats 0 in
theorem bnd_AX {E : Value → Shared → Prop} {h : Heap} {t : Nat} {K bt nd f : Addr} {tk t1' : Tok} (hK : h.get? K = some { cls := .type "type", data := .cls { name := "K", bases := [.type "object"], mro := [.ref K, .type "object"], ns := nd, qualname := "cmp_to_key.<locals>.K", hasDict := false, slotNames := ["obj"] }, slots := #[some (.ref bt), none, some (.str "K" tk), some (.str "cmp_to_key.<locals>.K" t1'), some (.builtin "object.__new__"), some (.bool false)] })
    (hf : h.get? f = some { cls := .type "builtin_function_or_method", data := .fields #[.builtin "object.__init_subclass__", .ref K] }) :
    wpAny (model prog w) AX (call (.ref f) []) (fun v s' => ∃ h' t', s' = ⟨h', g, d, t', os⟩ ∧ Gr [] h h') E ⟨h, g, d, t, os⟩ := by
  x_run
end
section
variable {prog : Program} {w : World} {g : Array GenState} {d : Drawn} {os : OsState}
local macro_rules | `(tactic| x_close) => `(tactic| (refine ⟨_, _, _, rfl, rfl, mem_gr (by assumption), Mem.at (by assumption) 0 _ _ rfl, (Mem.nw (by assumption) _ (.head _)).2⟩))
set_option maxHeartbeats 0 in
theorem get_AX {E : Value → Shared → Prop} {h : Heap} {t : Nat} {K bt nd : Addr} {tk t1' : Tok} (hK : h.get? K = some { cls := .type "type", data := .cls { name := "K", bases := [.type "object"], mro := [.ref K, .type "object"], ns := nd, qualname := "cmp_to_key.<locals>.K", hasDict := false, slotNames := ["obj"] }, slots := #[some (.ref bt), none, some (.str "K" tk), some (.str "cmp_to_key.<locals>.K" t1'), some (.builtin "object.__new__"), some (.bool false)] }) :
    wpAny (model prog w) AX (call (.builtin "classmethod_descriptor.__get__") [.builtin "object.__init_subclass__", .none, .ref K]) (fun v s' => ∃ f h' t', v = .ref f ∧ s' = ⟨h', g, d, t', os⟩ ∧ Gr [] h h' ∧ h'.get? f = some (bndO K) ∧ h.get? f = none) E ⟨h, g, d, t, os⟩ := by
  x_run
end
end Mine
end
section
open PySem PySem.W PySem.W.X PyProof.Rows PySem.Calls
set_option maxRecDepth 100000
namespace Mine
section
variable {w : World} {g : Array GenState} {d : Drawn} {os : OsState}
theorem Mem.up {h₀ h h' : Heap} {chg news : List (Addr × Obj)} (D : Mem h₀ h chg news) (k : ∀ b o, h.get? b = some o → h'.get? b = some o) : Mem h₀ h' chg news :=
  ⟨fun b o e q => k b o (D.keep b o e q), fun p hp => ⟨k _ _ (D.ch p hp).1, (D.ch p hp).2⟩, D.cd, fun p hp => ⟨k _ _ (D.nw p hp).1, (D.nw p hp).2⟩, D.ord⟩
section
variable {α : Type} {A : Around} {E : Value → Shared → Prop} {h h₀ : Heap} {t : Nat} {chg news : List (Addr × Obj)}
theorem a_alloc {o : Obj} {Q : Addr → Shared → Prop} (D : Mem h₀ h chg news) (hf : o.isFreed = false) (x : ∀ a h', Mem h₀ h' chg ((a, o) :: news) → Q a ⟨h', g, d, t, os⟩) : wpAny (MM w) A (alloc o) Q E ⟨h, g, d, t, os⟩ := wpAny_alloc (x _ _ (D.alloc hf))
theorem a_updatePart {a : Addr} {q : Option Value} {f : Obj → Obj} {o o' : Obj} {Q : Unit → Shared → Prop} (D : Mem h₀ h chg news) (i : Nat) (hi : news[i]? = some (a, o)) (ho : f o = o') (hf : o'.isFreed = false) (x : ∀ h', Mem h₀ h' chg (news.set i (a, o')) → Q () ⟨h', g, d, t, os⟩) : wpAny (MM w) A (updatePart a q f) Q E ⟨h, g, d, t, os⟩ := by
  subst ho; exact wpAny_updatePart (D.at i a o hi) (x _ (D.update hi hf))
theorem a_update {a : Addr} {f : Obj → Obj} {o o' : Obj} {Q : Unit → Shared → Prop} (D : Mem h₀ h chg news) (i : Nat) (hi : news[i]? = some (a, o)) (ho : f o = o') (hf : o'.isFreed = false) (x : ∀ h', Mem h₀ h' chg (news.set i (a, o')) → Q () ⟨h', g, d, t, os⟩) : wpAny (MM w) A (update a f) Q E ⟨h, g, d, t, os⟩ := by
  subst ho; exact wpAny_update (D.at i a o hi) (x _ (D.update hi hf))
theorem a_load {a : Addr} {o : Obj} {Q : Obj → Shared → Prop} (ho : h.get? a = some o) (q : Q o ⟨h, g, d, t, os⟩) : wpAny (MM w) A (load a) Q E ⟨h, g, d, t, os⟩ := wpAny_load ho q
theorem a_loadPart {a : Addr} {p : Option Value} {o : Obj} {Q : Obj → Shared → Prop} (ho : h.get? a = some o) (q : Q o ⟨h, g, d, t, os⟩) : wpAny (MM w) A (loadPart a p) Q E ⟨h, g, d, t, os⟩ := wpAny_loadPart ho q
end
theorem a_load2 {A : Around} {E : Value → Shared → Prop} {h : Heap} {t : Nat} {a : Addr} {Q : Obj → Shared → Prop} (x : ∃ o, h.get? a = some o ∧ Q o ⟨h, g, d, t, os⟩) : wpAny (MM w) A (load a) Q E ⟨h, g, d, t, os⟩ := let ⟨_, ho, q⟩ := x; wpAny_load ho q
theorem a_loadPart2 {A : Around} {E : Value → Shared → Prop} {h : Heap} {t : Nat} {a : Addr} {p : Option Value} {Q : Obj → Shared → Prop} (x : ∃ o, h.get? a = some o ∧ Q o ⟨h, g, d, t, os⟩) : wpAny (MM w) A (loadPart a p) Q E ⟨h, g, d, t, os⟩ := let ⟨_, ho, q⟩ := x; wpAny_loadPart ho q
theorem a_ifF {α : Type} {M : Model} {A : Around} {E : Value → Shared → Prop} {s : Shared} {b : Bool} {x y : Sem α} {Q : α → Shared → Prop} (hb : b = false) (q : wpAny M A y Q E s) : wpAny M A (if b = true then x else y) Q E s := by subst hb; exact q
theorem a_ifT {α : Type} {M : Model} {A : Around} {E : Value → Shared → Prop} {s : Shared} {b : Bool} {x y : Sem α} {Q : α → Shared → Prop} (hb : b = true) (q : wpAny M A x Q E s) : wpAny M A (if b = true then x else y) Q E s := by subst hb; exact q
theorem a_collect {A : Around} {E : Value → Shared → Prop} {h : Heap} {t : Nat} {v : Value} {sl : Addr} {ts : Tok} {Q : List Value → Shared → Prop} (hv : v = .ref sl) (hsl : h.get? sl = some { cls := .type "list", data := .seq #[.str "obj" ts] 0 })
    (q : ∀ h', (∀ b o', h.get? b = some o' → h'.get? b = some o') → Q [.str "obj" ts] ⟨h', g, d, t, os⟩) : wpAny (MM w) A (collect v) Q E ⟨h, g, d, t, os⟩ := by
  subst hv; exact wpAny_collect_seq sl (.inl rfl) hsl rfl rfl q (by show 1 ≤ sizeLine; decide)
theorem a_allocE {A : Around} {E : Value → Shared → Prop} {h h₀ : Heap} {t : Nat} {chg news : List (Addr × Obj)} {o o' : Obj} {Q : Addr → Shared → Prop} (D : Mem h₀ h chg news) (ho : o = o') (hf : o'.isFreed = false) (x : ∀ a h', Mem h₀ h' chg ((a, o') :: news) → Q a ⟨h', g, d, t, os⟩) : wpAny (MM w) A (alloc o) Q E ⟨h, g, d, t, os⟩ := by subst ho; exact wpAny_alloc (x _ _ (D.alloc hf))
theorem a_pureG {α : Type} {A : Around} {E : Value → Shared → Prop} {s : Shared} {x : α} {Q : α → Shared → Prop} (q : ∀ y, y = x → Q y s) : wpAny (MM w) A (pure x) Q E s := wpAny_pure (q x rfl)
theorem a_hash {α : Type} {A : Around} {E : Value → Shared → Prop} {s : Shared} {f : Setting → α} {Q : α → Shared → Prop} (q : ∀ y, Q y s) : wpAny (MM w) A ask (fun a s' => wpAny (MM w) A (pure (f a)) Q E s') E s := wpAny_askSetting (wpAny_pure (q _))
theorem a_try {α : Type} {A : Around} {E : Value → Shared → Prop} {s : Shared} {m : Sem α} {k : Value → Sem α} {Q : α → Shared → Prop} (q : wpAny (MM w) A m Q (fun e s' => wpAny (MM w) A (k e) Q E s') s) : wpAny (MM w) A (m.tryCatch k) Q E s := wpAny_tryCatch q
noncomputable abbrev KO (nd : Addr) (mro : List Value) (hd : Bool) (sn : List Str) (slots : Array (Option Value)) : Obj := { cls := .type "type", data := .cls { name := "K", bases := [.type "object"], mro, ns := nd, qualname := "cmp_to_key.<locals>.K", hasDict := hd, slotNames := sn }, slots }
noncomputable abbrev DE (h : Int) (k : Str) (t : Tok) (v : Value) : DictEntry := ⟨h, .str k t, v⟩
theorem a_loopE {α β : Type} {A : Around} {E : Value → Shared → Prop} {s : Shared} {as as' as'' : List α} {f : (a : α) → a ∈ as → β → Sem (ForInStep β)} {b : β} {hp : ∃ bs, bs ++ as' = as} {Q : β → Shared → Prop} (e : as' = as'') (q : ∀ hp, wpAny (MM w) A (List.forIn'.loop as f as'' b hp) Q E s) : wpAny (MM w) A (List.forIn'.loop as f as' b hp) Q E s := by subst e; exact q hp
set_option maxHeartbeats 4000000 in
theorem super_ga {A : Around} {E : Value → Shared → Prop} {Q : Fin → Shared → Prop} {h : Heap} {t : Nat} (R : Room A) {K so bt nd : Addr} {tk t1' tn : Tok} (hK : h.get? K = some (KO nd [.ref K, .type "object"] false ["obj"] #[some (.ref bt), none, some (.str "K" tk), some (.str "cmp_to_key.<locals>.K" t1'), some (.builtin "object.__new__"), some (.bool false)]))
    (hso : h.get? so = some (supO K)) (X : (K0 w.params).In h)
    (q : ∀ f h' t', Gr [] h h' → h'.get? f = some (bndO K) → h.get? f = none → Q (.done (.ret (.ref f))) ⟨h', g, d, t', os⟩) :
    wpAny (MM w) A (Builtin.«super.__getattribute__» ⟨[.ref so, .str "__init_subclass__" tn], []⟩) Q E ⟨h, g, d, t, os⟩ := by
  obtain ⟨oc, hcs, hlk⟩ : ∃ o, h.get? cStatics = some o ∧ (nsLook "thirdparty.any" o : Sem _) = pure none := ⟨_, X cStatics _ rfl, by kernel_rfl⟩
  have hT1 := ty_init_subclass
  have hL1 := look_cmd_get
  have hO := own_object_init_subclass
  unfold Builtin.«super.__getattribute__»
  repeat (first
    | with_reducible (first | refine wpAny_bind ?_ | refine wpAny_pure ?_ | refine wpAny_holding ?_ | refine wpAny_rule ?_ | refine wpAny_of_eq (by assumption) ?_ | refine wpAny_fresh' ?_)
    | (with_reducible refine a_load2 ?_; refine ⟨_, (by first | assumption | exact Mem.old (by assumption) _ _ (by assumption) rfl | exact Mem.at (by assumption) 0 _ _ rfl | exact Mem.at (by assumption) 1 _ _ rfl | exact Mem.at (by assumption) 2 _ _ rfl | exact Mem.at (by assumption) 3 _ _ rfl | exact Mem.at (by assumption) 4 _ _ rfl | exact Mem.at (by assumption) 5 _ _ rfl | exact Mem.at (by assumption) 6 _ _ rfl | exact Mem.at (by assumption) 7 _ _ rfl), ?_⟩)
    | (with_reducible refine a_loadPart2 ?_; refine ⟨_, (by first | assumption | exact Mem.old (by assumption) _ _ (by assumption) rfl | exact Mem.at (by assumption) 0 _ _ rfl | exact Mem.at (by assumption) 1 _ _ rfl | exact Mem.at (by assumption) 2 _ _ rfl | exact Mem.at (by assumption) 3 _ _ rfl | exact Mem.at (by assumption) 4 _ _ rfl | exact Mem.at (by assumption) 5 _ _ rfl | exact Mem.at (by assumption) 6 _ _ rfl | exact Mem.at (by assumption) 7 _ _ rfl), ?_⟩)
    | with_reducible (first | refine a_ifF (by assumption) ?_ | refine a_ifT (by assumption) ?_)
    | (with_reducible refine wpAny_ite_false ?_ ?_; focus (first | kernel_rfl! | (simp; done)))
    | (with_reducible refine wpAny_ite_true ?_ ?_; focus (first | kernel_rfl! | (simp; done)))
    | (with_reducible refine a_collect (sl := sl) (ts := ts) ?_ hsl ?_; focus kernel_rfl)
    | with_reducible refine a_try ?_
    | wp_delta
    | with_reducible_and_instances refine wpAny_pure ?_
    | with_reducible_and_instances refine wpAny_bind ?_
    | with_reducible refine wpAny_runValue ?_)
  refine a_loopE (as'' := [.type "object"]) (by show List.drop 1 (List.dropWhile (fun x => x != Value.ref K) [Value.ref K, .type "object"]) = _; simp) fun hp => ?_
  repeat (first
    | with_reducible (first | refine wpAny_bind ?_ | refine wpAny_pure ?_ | refine wpAny_holding ?_ | refine wpAny_rule ?_ | refine wpAny_of_eq (by assumption) ?_ | refine wpAny_fresh' ?_)
    | (with_reducible refine a_load2 ?_; refine ⟨_, (by first | assumption | exact Mem.old (by assumption) _ _ (by assumption) rfl | exact Mem.at (by assumption) 0 _ _ rfl | exact Mem.at (by assumption) 1 _ _ rfl | exact Mem.at (by assumption) 2 _ _ rfl | exact Mem.at (by assumption) 3 _ _ rfl | exact Mem.at (by assumption) 4 _ _ rfl | exact Mem.at (by assumption) 5 _ _ rfl | exact Mem.at (by assumption) 6 _ _ rfl | exact Mem.at (by assumption) 7 _ _ rfl), ?_⟩)
    | (with_reducible refine a_loadPart2 ?_; refine ⟨_, (by first | assumption | exact Mem.old (by assumption) _ _ (by assumption) rfl | exact Mem.at (by assumption) 0 _ _ rfl | exact Mem.at (by assumption) 1 _ _ rfl | exact Mem.at (by assumption) 2 _ _ rfl | exact Mem.at (by assumption) 3 _ _ rfl | exact Mem.at (by assumption) 4 _ _ rfl | exact Mem.at (by assumption) 5 _ _ rfl | exact Mem.at (by assumption) 6 _ _ rfl | exact Mem.at (by assumption) 7 _ _ rfl), ?_⟩)
    | with_reducible (first | refine a_ifF (by assumption) ?_ | refine a_ifT (by assumption) ?_)
    | (with_reducible refine wpAny_ite_false ?_ ?_; focus (first | kernel_rfl! | (simp; done)))
    | (with_reducible refine wpAny_ite_true ?_ ?_; focus (first | kernel_rfl! | (simp; done)))
    | (with_reducible refine a_collect (sl := sl) (ts := ts) ?_ hsl ?_; focus kernel_rfl)
    | with_reducible refine a_try ?_
    | wp_delta
    | with_reducible_and_instances refine wpAny_pure ?_
    | with_reducible_and_instances refine wpAny_bind ?_
    | with_reducible refine wpAny_runValue ?_)
  show wpAny (MM w) A (call (.builtin "classmethod_descriptor.__get__") [.builtin "object.__init_subclass__", (if (Value.ref K == Value.ref K) = true then .none else .ref K), .ref K]) _ _ _
  rw [if_pos (by simp)]
  refine wpAny_mono (of_AX R (get_AX hK)) ?_ (fun _ _ e => e)
  rintro v s' ⟨f, h', t', rfl, rfl, G, hf, nf⟩
  repeat (first
    | with_reducible (first | refine wpAny_bind ?_ | refine wpAny_pure ?_ | refine wpAny_holding ?_ | refine wpAny_rule ?_ | refine wpAny_of_eq (by assumption) ?_ | refine wpAny_fresh' ?_)
    | (with_reducible refine a_load2 ?_; refine ⟨_, (by first | assumption | exact Mem.old (by assumption) _ _ (by assumption) rfl | exact Mem.at (by assumption) 0 _ _ rfl | exact Mem.at (by assumption) 1 _ _ rfl | exact Mem.at (by assumption) 2 _ _ rfl | exact Mem.at (by assumption) 3 _ _ rfl | exact Mem.at (by assumption) 4 _ _ rfl | exact Mem.at (by assumption) 5 _ _ rfl | exact Mem.at (by assumption) 6 _ _ rfl | exact Mem.at (by assumption) 7 _ _ rfl), ?_⟩)
    | (with_reducible refine a_loadPart2 ?_; refine ⟨_, (by first | assumption | exact Mem.old (by assumption) _ _ (by assumption) rfl | exact Mem.at (by assumption) 0 _ _ rfl | exact Mem.at (by assumption) 1 _ _ rfl | exact Mem.at (by assumption) 2 _ _ rfl | exact Mem.at (by assumption) 3 _ _ rfl | exact Mem.at (by assumption) 4 _ _ rfl | exact Mem.at (by assumption) 5 _ _ rfl | exact Mem.at (by assumption) 6 _ _ rfl | exact Mem.at (by assumption) 7 _ _ rfl), ?_⟩)
    | with_reducible (first | refine a_ifF (by assumption) ?_ | refine a_ifT (by assumption) ?_)
    | (with_reducible refine wpAny_ite_false ?_ ?_; focus (first | kernel_rfl! | (simp; done)))
    | (with_reducible refine wpAny_ite_true ?_ ?_; focus (first | kernel_rfl! | (simp; done)))
    | (with_reducible refine a_collect (sl := sl) (ts := ts) ?_ hsl ?_; focus kernel_rfl)
    | with_reducible refine a_try ?_
    | wp_delta
    | with_reducible_and_instances refine wpAny_pure ?_
    | with_reducible_and_instances refine wpAny_bind ?_
    | with_reducible refine wpAny_runValue ?_)
  exact q f h' t' G hf nf
set_option maxHeartbeats 4000000 in
theorem super_attr {A : Around} {E : Value → Shared → Prop} {Q : Value → Shared → Prop} {h : Heap} {t : Nat} (R : Room A.in1) {K so bt nd : Addr} {tk t1' : Tok} (hK : h.get? K = some (KO nd [.ref K, .type "object"] false ["obj"] #[some (.ref bt), none, some (.str "K" tk), some (.str "cmp_to_key.<locals>.K" t1'), some (.builtin "object.__new__"), some (.bool false)]))
    (hso : h.get? so = some (supO K)) (X : (K0 w.params).In h)
    (q : ∀ f h' t', Gr [] h h' → h'.get? f = some (bndO K) → h.get? f = none → Q (.ref f) ⟨h', g, d, t', os⟩) :
    wpAny (MM w) A (getAttr (.ref so) "__init_subclass__") Q E ⟨h, g, d, t, os⟩ := by
  have hlk := F.ks_slot_super_ga.lookup
  have hT : ∀ t', (⟨h, g, d, t', os⟩ : Shared).TypeIs (.ref so) "super" := fun _ => ⟨_, hso, rfl⟩
  unfold getAttr getAttrBy
  refine wpAny_bind (wpAny_mkText (wpAny_holding (wpAny_bind (wpAny_typeOf (hT _) (wpAny_bind (wpAny_of_eq hlk ?_))))))
  show wpAny _ _ (getAttrByItsOwn (.ref so) (.str "__init_subclass__" t) (.type "super") (.builtin "super.__getattribute__") true false) _ _ _
  unfold getAttrByItsOwn hookBefore callGetattribute boundAndCalled
  refine wpAny_bind (wpAny_of_eq (show (if onTheHeap (.type "super") then typeLookup (.type "super") "__getattr__" else pure none) = pure none from rfl) ?_)
  refine wpAny_bind (wpAny_attempt (wpAny_holding ?_))
  show wpAny _ _ (bindSpecial (.builtin "super.__getattribute__") (.ref so) >>= _) _ _ _
  refine wpAny_bind (wpAny_of_eq (F.ks_slot_super_ga.bind _) ?_)
  refine wpAny_mono (Q := fun v s' => ∃ f h' t', v = .ref f ∧ s' = ⟨h', g, d, t', os⟩ ∧ Gr [] h h' ∧ h'.get? f = some (bndO K) ∧ h.get? f = none) (E := fun _ _ => False)
    (wpAny_call_entry F.ks_slot_super_ga (hT _) F.ks_entry_super_ga (super_ga ?room hK hso X (fun f h' t' G hf nf => ⟨_, rfl, f, h', t', rfl, rfl, G, hf, nf⟩)) (F.ks_gaArgs_super _ _)) (fun v s' hv => ?_) fun _ _ z => z.elim
  · exact R
  obtain ⟨f, h', t', rfl, rfl, G, hf, nf⟩ := hv
  exact wpAny_pure (q f h' t' G hf nf)
end
end Mine
end
section
open PySem PySem.W PySem.W.X PyProof.Rows PySem.Calls
set_option maxRecDepth 100000
namespace Mine
section
variable {w : World} {g : Array GenState} {d : Drawn} {os : OsState}
set_option maxHeartbeats 0 in
theorem tnew_walk {A : Around} {Q : Fin → Shared → Prop} {E : Value → Shared → Prop} {h : Heap} {t tk : Nat} {bt ns sl sa f0 f1 f2 f3 f4 f5 : Addr} {e0 e1 e2 e3 e4 e5 e6 e7 e8 e9 e10 e11 : Int} {t0 t0' t1 t1' t2 t2' t3 t4 t5 t6 t7 t8 t9 t10 t11 ts : Tok}
    {ts1 : Tok} {F0 F1 F2 F3 F4 F5 : FuncData}
    (hbt : h.get? bt = some { cls := .type "tuple", data := .seq #[.type "object"] 0 })
    (hns : h.get? ns = some { cls := .type "dict", data := .dict #[DE e0 "__module__" t0 (.str "cpy313.functools" t0'), DE e1 "__qualname__" t1 (.str "cmp_to_key.<locals>.K" t1'), DE e2 "__firstlineno__" t2 (.int 18 t2'), DE e3 "__slots__" t3 (.ref sl), DE e4 "__init__" t4 (.ref f0), DE e5 "__lt__" t5 (.ref f1), DE e6 "__gt__" t6 (.ref f2), DE e7 "__eq__" t7 (.ref f3), DE e8 "__le__" t8 (.ref f4), DE e9 "__ge__" t9 (.ref f5), DE e10 "__hash__" t10 .none, DE e11 "__static_attributes__" t11 (.ref sa)] 12 })
    (hsl : h.get? sl = some { cls := .type "list", data := .seq #[.str "obj" ts] 0 })
    (hsa : h.get? sa = some { cls := .type "tuple", data := .seq #[.str "obj" ts1] 0 })
    (hf0 : h.get? f0 = some { cls := .type "function", data := .func F0 }) (hf1 : h.get? f1 = some { cls := .type "function", data := .func F1 }) (hf2 : h.get? f2 = some { cls := .type "function", data := .func F2 }) (hf3 : h.get? f3 = some { cls := .type "function", data := .func F3 }) (hf4 : h.get? f4 = some { cls := .type "function", data := .func F4 }) (hf5 : h.get? f5 = some { cls := .type "function", data := .func F5 })
    (hnm : ns ≠ sysModules) (X : (K0 w.params).In h) (RR : RoomN 0 10 A)
    (q : ∀ K nd md h' t' hv hd tm, Mem h h' [] [(md, { cls := .type "member_descriptor", data := .fields #[.str "obj" tm, .ref K, .builtin "proto.slot", .builtin "proto.slot#set", .int 0 0] }), (K, KO nd [.ref K, .type "object"] false ["obj"] #[some (.ref bt), none, some (.str "K" tk), some (.str "cmp_to_key.<locals>.K" t1'), some (.builtin "object.__new__"), some (.bool false)]), (nd, { cls := .type "dict", data := .dict #[DE e0 "__module__" t0 (.str "cpy313.functools" t0'), DE e2 "__firstlineno__" t2 (.int 18 t2'), DE e3 "__slots__" t3 (.ref sl), DE e4 "__init__" t4 (.ref f0), DE e5 "__lt__" t5 (.ref f1), DE e6 "__gt__" t6 (.ref f2), DE e7 "__eq__" t7 (.ref f3), DE e8 "__le__" t8 (.ref f4), DE e9 "__ge__" t9 (.ref f5), DE e10 "__hash__" t10 .none, DE e11 "__static_attributes__" t11 (.ref sa), DE hv "obj" (tm + 1) (.ref md), DE hd "__doc__" (tm + 2) .none] 3 })] → Q (.done (.ret (.ref K))) ⟨h', g, d, t', os⟩) :
    wpAny (MM w) A (Builtin.«type.__new__» ⟨[.type "type", .str "K" tk, .ref bt, .ref ns], []⟩) Q E ⟨h, g, d, t, os⟩ := by
  have D := Mem.start h
  have hS1 := st_tuple
  have hS2 := st_dict
  have hS3 := st_type
  have hS4 := st_object
  have hT1 := ty_object
  have hM1 := mro_object
  have hL1 := look_object_new
  have hL2 := look_object_weak
  have hL3 := look_dict_iter
  have hL4 := look_type_mro
  have hW1 := weak_object
  have hW2 := solid_object
  have hW3 := made_object
  have hnm2 : (ns == sysModules) = false := by simpa using hnm
  unfold Builtin.«type.__new__»
  repeat (first
    | with_reducible (first | refine wpAny_bind ?_ | refine wpAny_pure ?_ | refine wpAny_holding ?_ | refine wpAny_rule ?_ | refine wpAny_of_eq (by assumption) ?_ | refine wpAny_fresh' ?_)
    | (with_reducible refine a_load2 ?_; refine ⟨_, (by first | assumption | exact Mem.old (by assumption) _ _ (by assumption) rfl | exact Mem.at (by assumption) 0 _ _ rfl | exact Mem.at (by assumption) 1 _ _ rfl | exact Mem.at (by assumption) 2 _ _ rfl | exact Mem.at (by assumption) 3 _ _ rfl | exact Mem.at (by assumption) 4 _ _ rfl | exact Mem.at (by assumption) 5 _ _ rfl | exact Mem.at (by assumption) 6 _ _ rfl | exact Mem.at (by assumption) 7 _ _ rfl), ?_⟩)
    | (with_reducible refine a_loadPart2 ?_; refine ⟨_, (by first | assumption | exact Mem.old (by assumption) _ _ (by assumption) rfl | exact Mem.at (by assumption) 0 _ _ rfl | exact Mem.at (by assumption) 1 _ _ rfl | exact Mem.at (by assumption) 2 _ _ rfl | exact Mem.at (by assumption) 3 _ _ rfl | exact Mem.at (by assumption) 4 _ _ rfl | exact Mem.at (by assumption) 5 _ _ rfl | exact Mem.at (by assumption) 6 _ _ rfl | exact Mem.at (by assumption) 7 _ _ rfl), ?_⟩)
    | with_reducible (first | refine a_ifF (by assumption) ?_ | refine a_ifT (by assumption) ?_)
    | (with_reducible refine wpAny_ite_false ?_ ?_; focus (first | kernel_rfl! | (simp; done)))
    | (with_reducible refine wpAny_ite_true ?_ ?_; focus (first | kernel_rfl! | (simp; done)))
    | (with_reducible refine a_collect (sl := sl) (ts := ts) ?_ hsl ?_; focus kernel_rfl)
    | with_reducible refine a_try ?_
    | wp_delta
    | with_reducible_and_instances refine wpAny_pure ?_
    | with_reducible_and_instances refine wpAny_bind ?_
    | with_reducible refine wpAny_runValue ?_)
  intro h₁ k₁
  replace D := Mine.Mem.up D k₁
  repeat (first
    | with_reducible (first | refine wpAny_bind ?_ | refine wpAny_pure ?_ | refine wpAny_holding ?_ | refine wpAny_rule ?_ | refine wpAny_of_eq (by assumption) ?_ | refine wpAny_fresh' ?_)
    | (with_reducible refine a_load2 ?_; refine ⟨_, (by first | assumption | exact Mem.old (by assumption) _ _ (by assumption) rfl | exact Mem.at (by assumption) 0 _ _ rfl | exact Mem.at (by assumption) 1 _ _ rfl | exact Mem.at (by assumption) 2 _ _ rfl | exact Mem.at (by assumption) 3 _ _ rfl | exact Mem.at (by assumption) 4 _ _ rfl | exact Mem.at (by assumption) 5 _ _ rfl | exact Mem.at (by assumption) 6 _ _ rfl | exact Mem.at (by assumption) 7 _ _ rfl), ?_⟩)
    | (with_reducible refine a_loadPart2 ?_; refine ⟨_, (by first | assumption | exact Mem.old (by assumption) _ _ (by assumption) rfl | exact Mem.at (by assumption) 0 _ _ rfl | exact Mem.at (by assumption) 1 _ _ rfl | exact Mem.at (by assumption) 2 _ _ rfl | exact Mem.at (by assumption) 3 _ _ rfl | exact Mem.at (by assumption) 4 _ _ rfl | exact Mem.at (by assumption) 5 _ _ rfl | exact Mem.at (by assumption) 6 _ _ rfl | exact Mem.at (by assumption) 7 _ _ rfl), ?_⟩)
    | with_reducible (first | refine a_ifF (by assumption) ?_ | refine a_ifT (by assumption) ?_)
    | (with_reducible refine wpAny_ite_false ?_ ?_; focus (first | kernel_rfl! | (simp; done)))
    | (with_reducible refine wpAny_ite_true ?_ ?_; focus (first | kernel_rfl! | (simp; done)))
    | (with_reducible refine a_collect (sl := sl) (ts := ts) ?_ hsl ?_; focus kernel_rfl)
    | with_reducible refine a_try ?_
    | wp_delta
    | with_reducible_and_instances refine wpAny_pure ?_
    | with_reducible_and_instances refine wpAny_bind ?_
    | with_reducible refine wpAny_runValue ?_)
  rw [show Builtin.Slots.isIdentifier (Str.ofString "obj") = some true from by decide +kernel]
  repeat (first
    | with_reducible (first | refine wpAny_bind ?_ | refine wpAny_pure ?_ | refine wpAny_holding ?_ | refine wpAny_rule ?_ | refine wpAny_of_eq (by assumption) ?_ | refine wpAny_fresh' ?_)
    | (with_reducible refine a_load2 ?_; refine ⟨_, (by first | assumption | exact Mem.old (by assumption) _ _ (by assumption) rfl | exact Mem.at (by assumption) 0 _ _ rfl | exact Mem.at (by assumption) 1 _ _ rfl | exact Mem.at (by assumption) 2 _ _ rfl | exact Mem.at (by assumption) 3 _ _ rfl | exact Mem.at (by assumption) 4 _ _ rfl | exact Mem.at (by assumption) 5 _ _ rfl | exact Mem.at (by assumption) 6 _ _ rfl | exact Mem.at (by assumption) 7 _ _ rfl), ?_⟩)
    | (with_reducible refine a_loadPart2 ?_; refine ⟨_, (by first | assumption | exact Mem.old (by assumption) _ _ (by assumption) rfl | exact Mem.at (by assumption) 0 _ _ rfl | exact Mem.at (by assumption) 1 _ _ rfl | exact Mem.at (by assumption) 2 _ _ rfl | exact Mem.at (by assumption) 3 _ _ rfl | exact Mem.at (by assumption) 4 _ _ rfl | exact Mem.at (by assumption) 5 _ _ rfl | exact Mem.at (by assumption) 6 _ _ rfl | exact Mem.at (by assumption) 7 _ _ rfl), ?_⟩)
    | with_reducible (first | refine a_ifF (by assumption) ?_ | refine a_ifT (by assumption) ?_)
    | (with_reducible refine wpAny_ite_false ?_ ?_; focus (first | kernel_rfl! | (simp; done)))
    | (with_reducible refine wpAny_ite_true ?_ ?_; focus (first | kernel_rfl! | (simp; done)))
    | (with_reducible refine a_collect (sl := sl) (ts := ts) ?_ hsl ?_; focus kernel_rfl)
    | with_reducible refine a_try ?_
    | wp_delta
    | with_reducible_and_instances refine wpAny_pure ?_
    | with_reducible_and_instances refine wpAny_bind ?_
    | with_reducible refine wpAny_runValue ?_)
  repeat (first
    | with_reducible (first | refine wpAny_bind ?_ | refine wpAny_pure ?_ | refine wpAny_holding ?_ | refine wpAny_rule ?_ | refine wpAny_of_eq (by assumption) ?_ | refine wpAny_fresh' ?_)
    | (with_reducible refine a_load2 ?_; refine ⟨_, (by first | assumption | exact Mem.old (by assumption) _ _ (by assumption) rfl | exact Mem.at (by assumption) 0 _ _ rfl | exact Mem.at (by assumption) 1 _ _ rfl | exact Mem.at (by assumption) 2 _ _ rfl | exact Mem.at (by assumption) 3 _ _ rfl | exact Mem.at (by assumption) 4 _ _ rfl | exact Mem.at (by assumption) 5 _ _ rfl | exact Mem.at (by assumption) 6 _ _ rfl | exact Mem.at (by assumption) 7 _ _ rfl), ?_⟩)
    | (with_reducible refine a_loadPart2 ?_; refine ⟨_, (by first | assumption | exact Mem.old (by assumption) _ _ (by assumption) rfl | exact Mem.at (by assumption) 0 _ _ rfl | exact Mem.at (by assumption) 1 _ _ rfl | exact Mem.at (by assumption) 2 _ _ rfl | exact Mem.at (by assumption) 3 _ _ rfl | exact Mem.at (by assumption) 4 _ _ rfl | exact Mem.at (by assumption) 5 _ _ rfl | exact Mem.at (by assumption) 6 _ _ rfl | exact Mem.at (by assumption) 7 _ _ rfl), ?_⟩)
    | with_reducible (first | refine a_ifF (by assumption) ?_ | refine a_ifT (by assumption) ?_)
    | (with_reducible refine wpAny_ite_false ?_ ?_; focus (first | kernel_rfl! | (simp; done)))
    | (with_reducible refine wpAny_ite_true ?_ ?_; focus (first | kernel_rfl! | (simp; done)))
    | (with_reducible refine a_collect (sl := sl) (ts := ts) ?_ hsl ?_; focus kernel_rfl)
    | with_reducible refine a_try ?_
    | wp_delta
    | with_reducible_and_instances refine wpAny_pure ?_
    | with_reducible_and_instances refine wpAny_bind ?_
    | with_reducible refine wpAny_runValue ?_)
  refine a_alloc D rfl ?_
  intro nd h₂ D₂
  clear D
  repeat (first
    | with_reducible (first | refine wpAny_bind ?_ | refine wpAny_pure ?_ | refine wpAny_holding ?_ | refine wpAny_rule ?_ | refine wpAny_of_eq (by assumption) ?_ | refine wpAny_fresh' ?_)
    | (with_reducible refine a_load2 ?_; refine ⟨_, (by first | assumption | exact Mem.old (by assumption) _ _ (by assumption) rfl | exact Mem.at (by assumption) 0 _ _ rfl | exact Mem.at (by assumption) 1 _ _ rfl | exact Mem.at (by assumption) 2 _ _ rfl | exact Mem.at (by assumption) 3 _ _ rfl | exact Mem.at (by assumption) 4 _ _ rfl | exact Mem.at (by assumption) 5 _ _ rfl | exact Mem.at (by assumption) 6 _ _ rfl | exact Mem.at (by assumption) 7 _ _ rfl), ?_⟩)
    | (with_reducible refine a_loadPart2 ?_; refine ⟨_, (by first | assumption | exact Mem.old (by assumption) _ _ (by assumption) rfl | exact Mem.at (by assumption) 0 _ _ rfl | exact Mem.at (by assumption) 1 _ _ rfl | exact Mem.at (by assumption) 2 _ _ rfl | exact Mem.at (by assumption) 3 _ _ rfl | exact Mem.at (by assumption) 4 _ _ rfl | exact Mem.at (by assumption) 5 _ _ rfl | exact Mem.at (by assumption) 6 _ _ rfl | exact Mem.at (by assumption) 7 _ _ rfl), ?_⟩)
    | with_reducible (first | refine a_ifF (by assumption) ?_ | refine a_ifT (by assumption) ?_)
    | (with_reducible refine wpAny_ite_false ?_ ?_; focus (first | kernel_rfl! | (simp; done)))
    | (with_reducible refine wpAny_ite_true ?_ ?_; focus (first | kernel_rfl! | (simp; done)))
    | (with_reducible refine a_collect (sl := sl) (ts := ts) ?_ hsl ?_; focus kernel_rfl)
    | with_reducible refine a_try ?_
    | wp_delta
    | with_reducible_and_instances refine wpAny_pure ?_
    | with_reducible_and_instances refine wpAny_bind ?_
    | with_reducible refine wpAny_runValue ?_)
  show wpAny (MM w) A (alloc { cls := .type "type", data := .cls { name := "K", bases := [.type "object"], mro := [], ns := nd, qualname := "cmp_to_key.<locals>.K" } }) _ _ _
  refine a_alloc D₂ rfl ?_
  intro K h₃ D₃
  clear D₂
  repeat (first
    | with_reducible (first | refine wpAny_bind ?_ | refine wpAny_pure ?_ | refine wpAny_holding ?_ | refine wpAny_rule ?_ | refine wpAny_of_eq (by assumption) ?_ | refine wpAny_fresh' ?_)
    | (with_reducible refine a_load2 ?_; refine ⟨_, (by first | assumption | exact Mem.old (by assumption) _ _ (by assumption) rfl | exact Mem.at (by assumption) 0 _ _ rfl | exact Mem.at (by assumption) 1 _ _ rfl | exact Mem.at (by assumption) 2 _ _ rfl | exact Mem.at (by assumption) 3 _ _ rfl | exact Mem.at (by assumption) 4 _ _ rfl | exact Mem.at (by assumption) 5 _ _ rfl | exact Mem.at (by assumption) 6 _ _ rfl | exact Mem.at (by assumption) 7 _ _ rfl), ?_⟩)
    | (with_reducible refine a_loadPart2 ?_; refine ⟨_, (by first | assumption | exact Mem.old (by assumption) _ _ (by assumption) rfl | exact Mem.at (by assumption) 0 _ _ rfl | exact Mem.at (by assumption) 1 _ _ rfl | exact Mem.at (by assumption) 2 _ _ rfl | exact Mem.at (by assumption) 3 _ _ rfl | exact Mem.at (by assumption) 4 _ _ rfl | exact Mem.at (by assumption) 5 _ _ rfl | exact Mem.at (by assumption) 6 _ _ rfl | exact Mem.at (by assumption) 7 _ _ rfl), ?_⟩)
    | with_reducible (first | refine a_ifF (by assumption) ?_ | refine a_ifT (by assumption) ?_)
    | (with_reducible refine wpAny_ite_false ?_ ?_; focus (first | kernel_rfl! | (simp; done)))
    | (with_reducible refine wpAny_ite_true ?_ ?_; focus (first | kernel_rfl! | (simp; done)))
    | (with_reducible refine a_collect (sl := sl) (ts := ts) ?_ hsl ?_; focus kernel_rfl)
    | with_reducible refine a_try ?_
    | wp_delta
    | with_reducible_and_instances refine wpAny_pure ?_
    | with_reducible_and_instances refine wpAny_bind ?_
    | with_reducible refine wpAny_runValue ?_)
  refine a_updatePart (o' := KO nd [] true [] #[some (.ref bt)]) D₃ 0 rfl (by kernel_rfl!) rfl ?_
  intro h₄ D₄
  clear D₃
  simp only [List.set] at D₄
  repeat (first
    | with_reducible (first | refine wpAny_bind ?_ | refine wpAny_pure ?_ | refine wpAny_holding ?_ | refine wpAny_rule ?_ | refine wpAny_of_eq (by assumption) ?_ | refine wpAny_fresh' ?_)
    | (with_reducible refine a_load2 ?_; refine ⟨_, (by first | assumption | exact Mem.old (by assumption) _ _ (by assumption) rfl | exact Mem.at (by assumption) 0 _ _ rfl | exact Mem.at (by assumption) 1 _ _ rfl | exact Mem.at (by assumption) 2 _ _ rfl | exact Mem.at (by assumption) 3 _ _ rfl | exact Mem.at (by assumption) 4 _ _ rfl | exact Mem.at (by assumption) 5 _ _ rfl | exact Mem.at (by assumption) 6 _ _ rfl | exact Mem.at (by assumption) 7 _ _ rfl), ?_⟩)
    | (with_reducible refine a_loadPart2 ?_; refine ⟨_, (by first | assumption | exact Mem.old (by assumption) _ _ (by assumption) rfl | exact Mem.at (by assumption) 0 _ _ rfl | exact Mem.at (by assumption) 1 _ _ rfl | exact Mem.at (by assumption) 2 _ _ rfl | exact Mem.at (by assumption) 3 _ _ rfl | exact Mem.at (by assumption) 4 _ _ rfl | exact Mem.at (by assumption) 5 _ _ rfl | exact Mem.at (by assumption) 6 _ _ rfl | exact Mem.at (by assumption) 7 _ _ rfl), ?_⟩)
    | with_reducible (first | refine a_ifF (by assumption) ?_ | refine a_ifT (by assumption) ?_)
    | (with_reducible refine wpAny_ite_false ?_ ?_; focus (first | kernel_rfl! | (simp; done)))
    | (with_reducible refine wpAny_ite_true ?_ ?_; focus (first | kernel_rfl! | (simp; done)))
    | (with_reducible refine a_collect (sl := sl) (ts := ts) ?_ hsl ?_; focus kernel_rfl)
    | with_reducible refine a_try ?_
    | wp_delta
    | with_reducible_and_instances refine wpAny_pure ?_
    | with_reducible_and_instances refine wpAny_bind ?_
    | with_reducible refine wpAny_runValue ?_)
  refine a_updatePart (o' := KO nd [] true [] #[some (.ref bt), none, some (.str "K" tk)]) D₄ 0 rfl (by kernel_rfl!) rfl ?_
  intro h₅ D₅
  clear D₄
  simp only [List.set] at D₅
  repeat (first
    | with_reducible (first | refine wpAny_bind ?_ | refine wpAny_pure ?_ | refine wpAny_holding ?_ | refine wpAny_rule ?_ | refine wpAny_of_eq (by assumption) ?_ | refine wpAny_fresh' ?_)
    | (with_reducible refine a_load2 ?_; refine ⟨_, (by first | assumption | exact Mem.old (by assumption) _ _ (by assumption) rfl | exact Mem.at (by assumption) 0 _ _ rfl | exact Mem.at (by assumption) 1 _ _ rfl | exact Mem.at (by assumption) 2 _ _ rfl | exact Mem.at (by assumption) 3 _ _ rfl | exact Mem.at (by assumption) 4 _ _ rfl | exact Mem.at (by assumption) 5 _ _ rfl | exact Mem.at (by assumption) 6 _ _ rfl | exact Mem.at (by assumption) 7 _ _ rfl), ?_⟩)
    | (with_reducible refine a_loadPart2 ?_; refine ⟨_, (by first | assumption | exact Mem.old (by assumption) _ _ (by assumption) rfl | exact Mem.at (by assumption) 0 _ _ rfl | exact Mem.at (by assumption) 1 _ _ rfl | exact Mem.at (by assumption) 2 _ _ rfl | exact Mem.at (by assumption) 3 _ _ rfl | exact Mem.at (by assumption) 4 _ _ rfl | exact Mem.at (by assumption) 5 _ _ rfl | exact Mem.at (by assumption) 6 _ _ rfl | exact Mem.at (by assumption) 7 _ _ rfl), ?_⟩)
    | with_reducible (first | refine a_ifF (by assumption) ?_ | refine a_ifT (by assumption) ?_)
    | (with_reducible refine wpAny_ite_false ?_ ?_; focus (first | kernel_rfl! | (simp; done)))
    | (with_reducible refine wpAny_ite_true ?_ ?_; focus (first | kernel_rfl! | (simp; done)))
    | (with_reducible refine a_collect (sl := sl) (ts := ts) ?_ hsl ?_; focus kernel_rfl)
    | with_reducible refine a_try ?_
    | wp_delta
    | with_reducible_and_instances refine wpAny_pure ?_
    | with_reducible_and_instances refine wpAny_bind ?_
    | with_reducible refine wpAny_runValue ?_)
  refine a_updatePart (o' := KO nd [] true [] #[some (.ref bt), none, some (.str "K" tk), some (.str "cmp_to_key.<locals>.K" t1')]) D₅ 0 rfl (by kernel_rfl!) rfl ?_
  intro h₆ D₆
  clear D₅
  simp only [List.set] at D₆
  repeat (first
    | with_reducible (first | refine wpAny_bind ?_ | refine wpAny_pure ?_ | refine wpAny_holding ?_ | refine wpAny_rule ?_ | refine wpAny_of_eq (by assumption) ?_ | refine wpAny_fresh' ?_)
    | (with_reducible refine a_load2 ?_; refine ⟨_, (by first | assumption | exact Mem.old (by assumption) _ _ (by assumption) rfl | exact Mem.at (by assumption) 0 _ _ rfl | exact Mem.at (by assumption) 1 _ _ rfl | exact Mem.at (by assumption) 2 _ _ rfl | exact Mem.at (by assumption) 3 _ _ rfl | exact Mem.at (by assumption) 4 _ _ rfl | exact Mem.at (by assumption) 5 _ _ rfl | exact Mem.at (by assumption) 6 _ _ rfl | exact Mem.at (by assumption) 7 _ _ rfl), ?_⟩)
    | (with_reducible refine a_loadPart2 ?_; refine ⟨_, (by first | assumption | exact Mem.old (by assumption) _ _ (by assumption) rfl | exact Mem.at (by assumption) 0 _ _ rfl | exact Mem.at (by assumption) 1 _ _ rfl | exact Mem.at (by assumption) 2 _ _ rfl | exact Mem.at (by assumption) 3 _ _ rfl | exact Mem.at (by assumption) 4 _ _ rfl | exact Mem.at (by assumption) 5 _ _ rfl | exact Mem.at (by assumption) 6 _ _ rfl | exact Mem.at (by assumption) 7 _ _ rfl), ?_⟩)
    | with_reducible (first | refine a_ifF (by assumption) ?_ | refine a_ifT (by assumption) ?_)
    | (with_reducible refine wpAny_ite_false ?_ ?_; focus (first | kernel_rfl! | (simp; done)))
    | (with_reducible refine wpAny_ite_true ?_ ?_; focus (first | kernel_rfl! | (simp; done)))
    | (with_reducible refine a_collect (sl := sl) (ts := ts) ?_ hsl ?_; focus kernel_rfl)
    | with_reducible refine a_try ?_
    | wp_delta
    | with_reducible_and_instances refine wpAny_pure ?_
    | with_reducible_and_instances refine wpAny_bind ?_
    | with_reducible refine wpAny_runValue ?_)
  refine a_updatePart (o' := { cls := .type "dict", data := .dict #[DE e0 "__module__" t0 (.str "cpy313.functools" t0'), DE e2 "__firstlineno__" t2 (.int 18 t2'), DE e3 "__slots__" t3 (.ref sl), DE e4 "__init__" t4 (.ref f0), DE e5 "__lt__" t5 (.ref f1), DE e6 "__gt__" t6 (.ref f2), DE e7 "__eq__" t7 (.ref f3), DE e8 "__le__" t8 (.ref f4), DE e9 "__ge__" t9 (.ref f5), DE e10 "__hash__" t10 .none, DE e11 "__static_attributes__" t11 (.ref sa)] 1 }) D₆ 1 rfl (by kernel_rfl!) rfl ?_
  intro h₇ D₇
  clear D₆
  simp only [List.set] at D₇
  repeat (first
    | with_reducible (first | refine wpAny_bind ?_ | refine wpAny_pure ?_ | refine wpAny_holding ?_ | refine wpAny_rule ?_ | refine wpAny_of_eq (by assumption) ?_ | refine wpAny_fresh' ?_)
    | (with_reducible refine a_load2 ?_; refine ⟨_, (by first | assumption | exact Mem.old (by assumption) _ _ (by assumption) rfl | exact Mem.at (by assumption) 0 _ _ rfl | exact Mem.at (by assumption) 1 _ _ rfl | exact Mem.at (by assumption) 2 _ _ rfl | exact Mem.at (by assumption) 3 _ _ rfl | exact Mem.at (by assumption) 4 _ _ rfl | exact Mem.at (by assumption) 5 _ _ rfl | exact Mem.at (by assumption) 6 _ _ rfl | exact Mem.at (by assumption) 7 _ _ rfl), ?_⟩)
    | (with_reducible refine a_loadPart2 ?_; refine ⟨_, (by first | assumption | exact Mem.old (by assumption) _ _ (by assumption) rfl | exact Mem.at (by assumption) 0 _ _ rfl | exact Mem.at (by assumption) 1 _ _ rfl | exact Mem.at (by assumption) 2 _ _ rfl | exact Mem.at (by assumption) 3 _ _ rfl | exact Mem.at (by assumption) 4 _ _ rfl | exact Mem.at (by assumption) 5 _ _ rfl | exact Mem.at (by assumption) 6 _ _ rfl | exact Mem.at (by assumption) 7 _ _ rfl), ?_⟩)
    | with_reducible (first | refine a_ifF (by assumption) ?_ | refine a_ifT (by assumption) ?_)
    | (with_reducible refine wpAny_ite_false ?_ ?_; focus (first | kernel_rfl! | (simp; done)))
    | (with_reducible refine wpAny_ite_true ?_ ?_; focus (first | kernel_rfl! | (simp; done)))
    | (with_reducible refine a_collect (sl := sl) (ts := ts) ?_ hsl ?_; focus kernel_rfl)
    | with_reducible refine a_try ?_
    | wp_delta
    | with_reducible_and_instances refine wpAny_pure ?_
    | with_reducible_and_instances refine wpAny_bind ?_
    | with_reducible refine wpAny_runValue ?_)
  show wpAny (MM w) A (List.anyM _ (List.filter (fun x => x != Value.ref K) [Value.ref K, .type "object"])) _ _ _
  rw [show List.filter (fun x => x != Value.ref K) [Value.ref K, .type "object"] = [.type "object"] from by simp]
  repeat (first
    | with_reducible (first | refine wpAny_bind ?_ | refine wpAny_pure ?_ | refine wpAny_holding ?_ | refine wpAny_rule ?_ | refine wpAny_of_eq (by assumption) ?_ | refine wpAny_fresh' ?_)
    | (with_reducible refine a_load2 ?_; refine ⟨_, (by first | assumption | exact Mem.old (by assumption) _ _ (by assumption) rfl | exact Mem.at (by assumption) 0 _ _ rfl | exact Mem.at (by assumption) 1 _ _ rfl | exact Mem.at (by assumption) 2 _ _ rfl | exact Mem.at (by assumption) 3 _ _ rfl | exact Mem.at (by assumption) 4 _ _ rfl | exact Mem.at (by assumption) 5 _ _ rfl | exact Mem.at (by assumption) 6 _ _ rfl | exact Mem.at (by assumption) 7 _ _ rfl), ?_⟩)
    | (with_reducible refine a_loadPart2 ?_; refine ⟨_, (by first | assumption | exact Mem.old (by assumption) _ _ (by assumption) rfl | exact Mem.at (by assumption) 0 _ _ rfl | exact Mem.at (by assumption) 1 _ _ rfl | exact Mem.at (by assumption) 2 _ _ rfl | exact Mem.at (by assumption) 3 _ _ rfl | exact Mem.at (by assumption) 4 _ _ rfl | exact Mem.at (by assumption) 5 _ _ rfl | exact Mem.at (by assumption) 6 _ _ rfl | exact Mem.at (by assumption) 7 _ _ rfl), ?_⟩)
    | with_reducible (first | refine a_ifF (by assumption) ?_ | refine a_ifT (by assumption) ?_)
    | (with_reducible refine wpAny_ite_false ?_ ?_; focus (first | kernel_rfl! | (simp; done)))
    | (with_reducible refine wpAny_ite_true ?_ ?_; focus (first | kernel_rfl! | (simp; done)))
    | (with_reducible refine a_collect (sl := sl) (ts := ts) ?_ hsl ?_; focus kernel_rfl)
    | with_reducible refine a_try ?_
    | wp_delta
    | with_reducible_and_instances refine wpAny_pure ?_
    | with_reducible_and_instances refine wpAny_bind ?_
    | with_reducible refine wpAny_runValue ?_)
  refine a_update (o' := KO nd [.ref K, .type "object"] true [] #[some (.ref bt), none, some (.str "K" tk), some (.str "cmp_to_key.<locals>.K" t1')]) D₇ 0 rfl (by kernel_rfl!) rfl ?_
  intro h₈ D₈
  clear D₇
  simp only [List.set] at D₈
  repeat (first
    | with_reducible (first | refine wpAny_bind ?_ | refine wpAny_pure ?_ | refine wpAny_holding ?_ | refine wpAny_rule ?_ | refine wpAny_of_eq (by assumption) ?_ | refine wpAny_fresh' ?_)
    | (with_reducible refine a_load2 ?_; refine ⟨_, (by first | assumption | exact Mem.old (by assumption) _ _ (by assumption) rfl | exact Mem.at (by assumption) 0 _ _ rfl | exact Mem.at (by assumption) 1 _ _ rfl | exact Mem.at (by assumption) 2 _ _ rfl | exact Mem.at (by assumption) 3 _ _ rfl | exact Mem.at (by assumption) 4 _ _ rfl | exact Mem.at (by assumption) 5 _ _ rfl | exact Mem.at (by assumption) 6 _ _ rfl | exact Mem.at (by assumption) 7 _ _ rfl), ?_⟩)
    | (with_reducible refine a_loadPart2 ?_; refine ⟨_, (by first | assumption | exact Mem.old (by assumption) _ _ (by assumption) rfl | exact Mem.at (by assumption) 0 _ _ rfl | exact Mem.at (by assumption) 1 _ _ rfl | exact Mem.at (by assumption) 2 _ _ rfl | exact Mem.at (by assumption) 3 _ _ rfl | exact Mem.at (by assumption) 4 _ _ rfl | exact Mem.at (by assumption) 5 _ _ rfl | exact Mem.at (by assumption) 6 _ _ rfl | exact Mem.at (by assumption) 7 _ _ rfl), ?_⟩)
    | with_reducible (first | refine a_ifF (by assumption) ?_ | refine a_ifT (by assumption) ?_)
    | (with_reducible refine wpAny_ite_false ?_ ?_; focus (first | kernel_rfl! | (simp; done)))
    | (with_reducible refine wpAny_ite_true ?_ ?_; focus (first | kernel_rfl! | (simp; done)))
    | (with_reducible refine a_collect (sl := sl) (ts := ts) ?_ hsl ?_; focus kernel_rfl)
    | with_reducible refine a_try ?_
    | wp_delta
    | with_reducible_and_instances refine wpAny_pure ?_
    | with_reducible_and_instances refine wpAny_bind ?_
    | with_reducible refine wpAny_runValue ?_)
  refine a_updatePart (o' := KO nd [.ref K, .type "object"] true [] #[some (.ref bt), none, some (.str "K" tk), some (.str "cmp_to_key.<locals>.K" t1'), some (.builtin "object.__new__")]) D₈ 0 rfl (by kernel_rfl!) rfl ?_
  intro h₉ D₉
  clear D₈
  simp only [List.set] at D₉
  repeat (first
    | with_reducible (first | refine wpAny_bind ?_ | refine wpAny_pure ?_ | refine wpAny_holding ?_ | refine wpAny_rule ?_ | refine wpAny_of_eq (by assumption) ?_ | refine wpAny_fresh' ?_)
    | (with_reducible refine a_load2 ?_; refine ⟨_, (by first | assumption | exact Mem.old (by assumption) _ _ (by assumption) rfl | exact Mem.at (by assumption) 0 _ _ rfl | exact Mem.at (by assumption) 1 _ _ rfl | exact Mem.at (by assumption) 2 _ _ rfl | exact Mem.at (by assumption) 3 _ _ rfl | exact Mem.at (by assumption) 4 _ _ rfl | exact Mem.at (by assumption) 5 _ _ rfl | exact Mem.at (by assumption) 6 _ _ rfl | exact Mem.at (by assumption) 7 _ _ rfl), ?_⟩)
    | (with_reducible refine a_loadPart2 ?_; refine ⟨_, (by first | assumption | exact Mem.old (by assumption) _ _ (by assumption) rfl | exact Mem.at (by assumption) 0 _ _ rfl | exact Mem.at (by assumption) 1 _ _ rfl | exact Mem.at (by assumption) 2 _ _ rfl | exact Mem.at (by assumption) 3 _ _ rfl | exact Mem.at (by assumption) 4 _ _ rfl | exact Mem.at (by assumption) 5 _ _ rfl | exact Mem.at (by assumption) 6 _ _ rfl | exact Mem.at (by assumption) 7 _ _ rfl), ?_⟩)
    | with_reducible (first | refine a_ifF (by assumption) ?_ | refine a_ifT (by assumption) ?_)
    | (with_reducible refine wpAny_ite_false ?_ ?_; focus (first | kernel_rfl! | (simp; done)))
    | (with_reducible refine wpAny_ite_true ?_ ?_; focus (first | kernel_rfl! | (simp; done)))
    | (with_reducible refine a_collect (sl := sl) (ts := ts) ?_ hsl ?_; focus kernel_rfl)
    | with_reducible refine a_try ?_
    | wp_delta
    | with_reducible_and_instances refine wpAny_pure ?_
    | with_reducible_and_instances refine wpAny_bind ?_
    | with_reducible refine wpAny_runValue ?_)
  unfold typeLookup
  have hC1 := own_object_new
  repeat (first
    | with_reducible (first | refine wpAny_bind ?_ | refine wpAny_pure ?_ | refine wpAny_holding ?_ | refine wpAny_rule ?_ | refine wpAny_of_eq (by assumption) ?_ | refine wpAny_fresh' ?_)
    | (with_reducible refine a_load2 ?_; refine ⟨_, (by first | assumption | exact Mem.old (by assumption) _ _ (by assumption) rfl | exact Mem.at (by assumption) 0 _ _ rfl | exact Mem.at (by assumption) 1 _ _ rfl | exact Mem.at (by assumption) 2 _ _ rfl | exact Mem.at (by assumption) 3 _ _ rfl | exact Mem.at (by assumption) 4 _ _ rfl | exact Mem.at (by assumption) 5 _ _ rfl | exact Mem.at (by assumption) 6 _ _ rfl | exact Mem.at (by assumption) 7 _ _ rfl), ?_⟩)
    | (with_reducible refine a_loadPart2 ?_; refine ⟨_, (by first | assumption | exact Mem.old (by assumption) _ _ (by assumption) rfl | exact Mem.at (by assumption) 0 _ _ rfl | exact Mem.at (by assumption) 1 _ _ rfl | exact Mem.at (by assumption) 2 _ _ rfl | exact Mem.at (by assumption) 3 _ _ rfl | exact Mem.at (by assumption) 4 _ _ rfl | exact Mem.at (by assumption) 5 _ _ rfl | exact Mem.at (by assumption) 6 _ _ rfl | exact Mem.at (by assumption) 7 _ _ rfl), ?_⟩)
    | with_reducible (first | refine a_ifF (by assumption) ?_ | refine a_ifT (by assumption) ?_)
    | (with_reducible refine wpAny_ite_false ?_ ?_; focus (first | kernel_rfl! | (simp; done)))
    | (with_reducible refine wpAny_ite_true ?_ ?_; focus (first | kernel_rfl! | (simp; done)))
    | (with_reducible refine a_collect (sl := sl) (ts := ts) ?_ hsl ?_; focus kernel_rfl)
    | with_reducible refine a_try ?_
    | wp_delta
    | with_reducible_and_instances refine wpAny_pure ?_
    | with_reducible_and_instances refine wpAny_bind ?_
    | with_reducible refine wpAny_runValue ?_)
  refine a_allocE (o' := { cls := .type "member_descriptor", data := .fields #[.str "obj" t, .ref K, .builtin "proto.slot", .builtin "proto.slot#set", .int 0 0] }) D₉ (by kernel_rfl!) rfl ?_
  intro md h₁₀ D₁₀
  clear D₉
  repeat (first
    | with_reducible (first | refine wpAny_bind ?_ | refine wpAny_pure ?_ | refine wpAny_holding ?_ | refine wpAny_rule ?_ | refine wpAny_of_eq (by assumption) ?_ | refine wpAny_fresh' ?_)
    | (with_reducible refine a_load2 ?_; refine ⟨_, (by first | assumption | exact Mem.old (by assumption) _ _ (by assumption) rfl | exact Mem.at (by assumption) 0 _ _ rfl | exact Mem.at (by assumption) 1 _ _ rfl | exact Mem.at (by assumption) 2 _ _ rfl | exact Mem.at (by assumption) 3 _ _ rfl | exact Mem.at (by assumption) 4 _ _ rfl | exact Mem.at (by assumption) 5 _ _ rfl | exact Mem.at (by assumption) 6 _ _ rfl | exact Mem.at (by assumption) 7 _ _ rfl), ?_⟩)
    | (with_reducible refine a_loadPart2 ?_; refine ⟨_, (by first | assumption | exact Mem.old (by assumption) _ _ (by assumption) rfl | exact Mem.at (by assumption) 0 _ _ rfl | exact Mem.at (by assumption) 1 _ _ rfl | exact Mem.at (by assumption) 2 _ _ rfl | exact Mem.at (by assumption) 3 _ _ rfl | exact Mem.at (by assumption) 4 _ _ rfl | exact Mem.at (by assumption) 5 _ _ rfl | exact Mem.at (by assumption) 6 _ _ rfl | exact Mem.at (by assumption) 7 _ _ rfl), ?_⟩)
    | with_reducible (first | refine a_ifF (by assumption) ?_ | refine a_ifT (by assumption) ?_)
    | (with_reducible refine wpAny_ite_false ?_ ?_; focus (first | kernel_rfl! | (simp; done)))
    | (with_reducible refine wpAny_ite_true ?_ ?_; focus (first | kernel_rfl! | (simp; done)))
    | (with_reducible refine a_collect (sl := sl) (ts := ts) ?_ hsl ?_; focus kernel_rfl)
    | with_reducible refine a_try ?_
    | wp_delta
    | with_reducible_and_instances refine wpAny_pure ?_
    | with_reducible_and_instances refine wpAny_bind ?_
    | with_reducible refine wpAny_runValue ?_)
  refine a_hash fun hv => ?_
  repeat (first
    | with_reducible (first | refine wpAny_bind ?_ | refine wpAny_pure ?_ | refine wpAny_holding ?_ | refine wpAny_rule ?_ | refine wpAny_of_eq (by assumption) ?_ | refine wpAny_fresh' ?_)
    | (with_reducible refine a_load2 ?_; refine ⟨_, (by first | assumption | exact Mem.old (by assumption) _ _ (by assumption) rfl | exact Mem.at (by assumption) 0 _ _ rfl | exact Mem.at (by assumption) 1 _ _ rfl | exact Mem.at (by assumption) 2 _ _ rfl | exact Mem.at (by assumption) 3 _ _ rfl | exact Mem.at (by assumption) 4 _ _ rfl | exact Mem.at (by assumption) 5 _ _ rfl | exact Mem.at (by assumption) 6 _ _ rfl | exact Mem.at (by assumption) 7 _ _ rfl), ?_⟩)
    | (with_reducible refine a_loadPart2 ?_; refine ⟨_, (by first | assumption | exact Mem.old (by assumption) _ _ (by assumption) rfl | exact Mem.at (by assumption) 0 _ _ rfl | exact Mem.at (by assumption) 1 _ _ rfl | exact Mem.at (by assumption) 2 _ _ rfl | exact Mem.at (by assumption) 3 _ _ rfl | exact Mem.at (by assumption) 4 _ _ rfl | exact Mem.at (by assumption) 5 _ _ rfl | exact Mem.at (by assumption) 6 _ _ rfl | exact Mem.at (by assumption) 7 _ _ rfl), ?_⟩)
    | with_reducible (first | refine a_ifF (by assumption) ?_ | refine a_ifT (by assumption) ?_)
    | (with_reducible refine wpAny_ite_false ?_ ?_; focus (first | kernel_rfl! | (simp; done)))
    | (with_reducible refine wpAny_ite_true ?_ ?_; focus (first | kernel_rfl! | (simp; done)))
    | (with_reducible refine a_collect (sl := sl) (ts := ts) ?_ hsl ?_; focus kernel_rfl)
    | with_reducible refine a_try ?_
    | wp_delta
    | with_reducible_and_instances refine wpAny_pure ?_
    | with_reducible_and_instances refine wpAny_bind ?_
    | with_reducible refine wpAny_runValue ?_)
  refine a_updatePart (o' := { cls := .type "dict", data := .dict #[DE e0 "__module__" t0 (.str "cpy313.functools" t0'), DE e2 "__firstlineno__" t2 (.int 18 t2'), DE e3 "__slots__" t3 (.ref sl), DE e4 "__init__" t4 (.ref f0), DE e5 "__lt__" t5 (.ref f1), DE e6 "__gt__" t6 (.ref f2), DE e7 "__eq__" t7 (.ref f3), DE e8 "__le__" t8 (.ref f4), DE e9 "__ge__" t9 (.ref f5), DE e10 "__hash__" t10 .none, DE e11 "__static_attributes__" t11 (.ref sa), DE hv "obj" (t + 1) (.ref md)] 2 }) D₁₀ 2 rfl (by kernel_rfl!) rfl ?_
  intro h₁₁ D₁₁
  clear D₁₀
  simp only [List.set] at D₁₁
  repeat (first
    | with_reducible (first | refine wpAny_bind ?_ | refine wpAny_pure ?_ | refine wpAny_holding ?_ | refine wpAny_rule ?_ | refine wpAny_of_eq (by assumption) ?_ | refine wpAny_fresh' ?_)
    | (with_reducible refine a_load2 ?_; refine ⟨_, (by first | assumption | exact Mem.old (by assumption) _ _ (by assumption) rfl | exact Mem.at (by assumption) 0 _ _ rfl | exact Mem.at (by assumption) 1 _ _ rfl | exact Mem.at (by assumption) 2 _ _ rfl | exact Mem.at (by assumption) 3 _ _ rfl | exact Mem.at (by assumption) 4 _ _ rfl | exact Mem.at (by assumption) 5 _ _ rfl | exact Mem.at (by assumption) 6 _ _ rfl | exact Mem.at (by assumption) 7 _ _ rfl), ?_⟩)
    | (with_reducible refine a_loadPart2 ?_; refine ⟨_, (by first | assumption | exact Mem.old (by assumption) _ _ (by assumption) rfl | exact Mem.at (by assumption) 0 _ _ rfl | exact Mem.at (by assumption) 1 _ _ rfl | exact Mem.at (by assumption) 2 _ _ rfl | exact Mem.at (by assumption) 3 _ _ rfl | exact Mem.at (by assumption) 4 _ _ rfl | exact Mem.at (by assumption) 5 _ _ rfl | exact Mem.at (by assumption) 6 _ _ rfl | exact Mem.at (by assumption) 7 _ _ rfl), ?_⟩)
    | with_reducible (first | refine a_ifF (by assumption) ?_ | refine a_ifT (by assumption) ?_)
    | (with_reducible refine wpAny_ite_false ?_ ?_; focus (first | kernel_rfl! | (simp; done)))
    | (with_reducible refine wpAny_ite_true ?_ ?_; focus (first | kernel_rfl! | (simp; done)))
    | (with_reducible refine a_collect (sl := sl) (ts := ts) ?_ hsl ?_; focus kernel_rfl)
    | with_reducible refine a_try ?_
    | wp_delta
    | with_reducible_and_instances refine wpAny_pure ?_
    | with_reducible_and_instances refine wpAny_bind ?_
    | with_reducible refine wpAny_runValue ?_)
  refine a_update (o' := KO nd [.ref K, .type "object"] false ["obj"] #[some (.ref bt), none, some (.str "K" tk), some (.str "cmp_to_key.<locals>.K" t1'), some (.builtin "object.__new__")]) D₁₁ 1 rfl (by kernel_rfl!) rfl ?_
  intro h₁₂ D₁₂
  clear D₁₁
  simp only [List.set] at D₁₂
  repeat (first
    | with_reducible (first | refine wpAny_bind ?_ | refine wpAny_pure ?_ | refine wpAny_holding ?_ | refine wpAny_rule ?_ | refine wpAny_of_eq (by assumption) ?_ | refine wpAny_fresh' ?_)
    | (with_reducible refine a_load2 ?_; refine ⟨_, (by first | assumption | exact Mem.old (by assumption) _ _ (by assumption) rfl | exact Mem.at (by assumption) 0 _ _ rfl | exact Mem.at (by assumption) 1 _ _ rfl | exact Mem.at (by assumption) 2 _ _ rfl | exact Mem.at (by assumption) 3 _ _ rfl | exact Mem.at (by assumption) 4 _ _ rfl | exact Mem.at (by assumption) 5 _ _ rfl | exact Mem.at (by assumption) 6 _ _ rfl | exact Mem.at (by assumption) 7 _ _ rfl), ?_⟩)
    | (with_reducible refine a_loadPart2 ?_; refine ⟨_, (by first | assumption | exact Mem.old (by assumption) _ _ (by assumption) rfl | exact Mem.at (by assumption) 0 _ _ rfl | exact Mem.at (by assumption) 1 _ _ rfl | exact Mem.at (by assumption) 2 _ _ rfl | exact Mem.at (by assumption) 3 _ _ rfl | exact Mem.at (by assumption) 4 _ _ rfl | exact Mem.at (by assumption) 5 _ _ rfl | exact Mem.at (by assumption) 6 _ _ rfl | exact Mem.at (by assumption) 7 _ _ rfl), ?_⟩)
    | with_reducible (first | refine a_ifF (by assumption) ?_ | refine a_ifT (by assumption) ?_)
    | (with_reducible refine wpAny_ite_false ?_ ?_; focus (first | kernel_rfl! | (simp; done)))
    | (with_reducible refine wpAny_ite_true ?_ ?_; focus (first | kernel_rfl! | (simp; done)))
    | (with_reducible refine a_collect (sl := sl) (ts := ts) ?_ hsl ?_; focus kernel_rfl)
    | with_reducible refine a_try ?_
    | wp_delta
    | with_reducible_and_instances refine wpAny_pure ?_
    | with_reducible_and_instances refine wpAny_bind ?_
    | with_reducible refine wpAny_runValue ?_)
  refine a_updatePart (o' := KO nd [.ref K, .type "object"] false ["obj"] #[some (.ref bt), none, some (.str "K" tk), some (.str "cmp_to_key.<locals>.K" t1'), some (.builtin "object.__new__"), some (.bool false)]) D₁₂ 1 rfl (by kernel_rfl!) rfl ?_
  intro h₁₃ D₁₃
  clear D₁₂
  simp only [List.set] at D₁₃
  repeat (first
    | with_reducible (first | refine wpAny_bind ?_ | refine wpAny_pure ?_ | refine wpAny_holding ?_ | refine wpAny_rule ?_ | refine wpAny_of_eq (by assumption) ?_ | refine wpAny_fresh' ?_)
    | (with_reducible refine a_load2 ?_; refine ⟨_, (by first | assumption | exact Mem.old (by assumption) _ _ (by assumption) rfl | exact Mem.at (by assumption) 0 _ _ rfl | exact Mem.at (by assumption) 1 _ _ rfl | exact Mem.at (by assumption) 2 _ _ rfl | exact Mem.at (by assumption) 3 _ _ rfl | exact Mem.at (by assumption) 4 _ _ rfl | exact Mem.at (by assumption) 5 _ _ rfl | exact Mem.at (by assumption) 6 _ _ rfl | exact Mem.at (by assumption) 7 _ _ rfl), ?_⟩)
    | (with_reducible refine a_loadPart2 ?_; refine ⟨_, (by first | assumption | exact Mem.old (by assumption) _ _ (by assumption) rfl | exact Mem.at (by assumption) 0 _ _ rfl | exact Mem.at (by assumption) 1 _ _ rfl | exact Mem.at (by assumption) 2 _ _ rfl | exact Mem.at (by assumption) 3 _ _ rfl | exact Mem.at (by assumption) 4 _ _ rfl | exact Mem.at (by assumption) 5 _ _ rfl | exact Mem.at (by assumption) 6 _ _ rfl | exact Mem.at (by assumption) 7 _ _ rfl), ?_⟩)
    | with_reducible (first | refine a_ifF (by assumption) ?_ | refine a_ifT (by assumption) ?_)
    | (with_reducible refine wpAny_ite_false ?_ ?_; focus (first | kernel_rfl! | (simp; done)))
    | (with_reducible refine wpAny_ite_true ?_ ?_; focus (first | kernel_rfl! | (simp; done)))
    | (with_reducible refine a_collect (sl := sl) (ts := ts) ?_ hsl ?_; focus kernel_rfl)
    | with_reducible refine a_try ?_
    | wp_delta
    | with_reducible_and_instances refine wpAny_pure ?_
    | with_reducible_and_instances refine wpAny_bind ?_
    | with_reducible refine wpAny_runValue ?_)
  refine a_hash fun hd => ?_
  repeat (first
    | with_reducible (first | refine wpAny_bind ?_ | refine wpAny_pure ?_ | refine wpAny_holding ?_ | refine wpAny_rule ?_ | refine wpAny_of_eq (by assumption) ?_ | refine wpAny_fresh' ?_)
    | (with_reducible refine a_load2 ?_; refine ⟨_, (by first | assumption | exact Mem.old (by assumption) _ _ (by assumption) rfl | exact Mem.at (by assumption) 0 _ _ rfl | exact Mem.at (by assumption) 1 _ _ rfl | exact Mem.at (by assumption) 2 _ _ rfl | exact Mem.at (by assumption) 3 _ _ rfl | exact Mem.at (by assumption) 4 _ _ rfl | exact Mem.at (by assumption) 5 _ _ rfl | exact Mem.at (by assumption) 6 _ _ rfl | exact Mem.at (by assumption) 7 _ _ rfl), ?_⟩)
    | (with_reducible refine a_loadPart2 ?_; refine ⟨_, (by first | assumption | exact Mem.old (by assumption) _ _ (by assumption) rfl | exact Mem.at (by assumption) 0 _ _ rfl | exact Mem.at (by assumption) 1 _ _ rfl | exact Mem.at (by assumption) 2 _ _ rfl | exact Mem.at (by assumption) 3 _ _ rfl | exact Mem.at (by assumption) 4 _ _ rfl | exact Mem.at (by assumption) 5 _ _ rfl | exact Mem.at (by assumption) 6 _ _ rfl | exact Mem.at (by assumption) 7 _ _ rfl), ?_⟩)
    | with_reducible (first | refine a_ifF (by assumption) ?_ | refine a_ifT (by assumption) ?_)
    | (with_reducible refine wpAny_ite_false ?_ ?_; focus (first | kernel_rfl! | (simp; done)))
    | (with_reducible refine wpAny_ite_true ?_ ?_; focus (first | kernel_rfl! | (simp; done)))
    | (with_reducible refine a_collect (sl := sl) (ts := ts) ?_ hsl ?_; focus kernel_rfl)
    | with_reducible refine a_try ?_
    | wp_delta
    | with_reducible_and_instances refine wpAny_pure ?_
    | with_reducible_and_instances refine wpAny_bind ?_
    | with_reducible refine wpAny_runValue ?_)
  refine a_updatePart (o' := { cls := .type "dict", data := .dict #[DE e0 "__module__" t0 (.str "cpy313.functools" t0'), DE e2 "__firstlineno__" t2 (.int 18 t2'), DE e3 "__slots__" t3 (.ref sl), DE e4 "__init__" t4 (.ref f0), DE e5 "__lt__" t5 (.ref f1), DE e6 "__gt__" t6 (.ref f2), DE e7 "__eq__" t7 (.ref f3), DE e8 "__le__" t8 (.ref f4), DE e9 "__ge__" t9 (.ref f5), DE e10 "__hash__" t10 .none, DE e11 "__static_attributes__" t11 (.ref sa), DE hv "obj" (t + 1) (.ref md), DE hd "__doc__" (t + 2) .none] 3 }) D₁₃ 2 rfl (by kernel_rfl!) rfl ?_
  intro h₁₄ D₁₄
  clear D₁₃
  simp only [List.set] at D₁₄
  have hX1 := look_fn_setname
  have hX2 := look_str_setname
  have hX3 := look_int_setname
  have hX4 := look_list_setname
  have hX5 := look_tuple_setname
  have hX6 := look_none_setname
  have hX7 := look_member_setname
  repeat (first
    | with_reducible (first | refine wpAny_bind ?_ | refine wpAny_pure ?_ | refine wpAny_holding ?_ | refine wpAny_rule ?_ | refine wpAny_of_eq (by assumption) ?_ | refine wpAny_fresh' ?_)
    | (with_reducible refine a_load2 ?_; refine ⟨_, (by first | assumption | exact Mem.old (by assumption) _ _ (by assumption) rfl | exact Mem.at (by assumption) 0 _ _ rfl | exact Mem.at (by assumption) 1 _ _ rfl | exact Mem.at (by assumption) 2 _ _ rfl | exact Mem.at (by assumption) 3 _ _ rfl | exact Mem.at (by assumption) 4 _ _ rfl | exact Mem.at (by assumption) 5 _ _ rfl | exact Mem.at (by assumption) 6 _ _ rfl | exact Mem.at (by assumption) 7 _ _ rfl), ?_⟩)
    | (with_reducible refine a_loadPart2 ?_; refine ⟨_, (by first | assumption | exact Mem.old (by assumption) _ _ (by assumption) rfl | exact Mem.at (by assumption) 0 _ _ rfl | exact Mem.at (by assumption) 1 _ _ rfl | exact Mem.at (by assumption) 2 _ _ rfl | exact Mem.at (by assumption) 3 _ _ rfl | exact Mem.at (by assumption) 4 _ _ rfl | exact Mem.at (by assumption) 5 _ _ rfl | exact Mem.at (by assumption) 6 _ _ rfl | exact Mem.at (by assumption) 7 _ _ rfl), ?_⟩)
    | with_reducible (first | refine a_ifF (by assumption) ?_ | refine a_ifT (by assumption) ?_)
    | (with_reducible refine wpAny_ite_false ?_ ?_; focus (first | kernel_rfl! | (simp; done)))
    | (with_reducible refine wpAny_ite_true ?_ ?_; focus (first | kernel_rfl! | (simp; done)))
    | (with_reducible refine a_collect (sl := sl) (ts := ts) ?_ hsl ?_; focus kernel_rfl)
    | with_reducible refine a_try ?_
    | wp_delta
    | with_reducible_and_instances refine wpAny_pure ?_
    | with_reducible_and_instances refine wpAny_bind ?_
    | with_reducible refine wpAny_runValue ?_)
  have hK := D₁₄.at 1 _ _ rfl
  refine wpAny_mono (of_AX RR.room (super_AX hK)) ?_ (fun _ _ e => e)
  rintro v s' ⟨so, h₁₅, t₁₅, rfl, rfl, G₁₅, hso, -⟩
  have D₁₅ := Mine.Mem.up D₁₄ G₁₅.all
  clear D₁₄
  replace hK := G₁₅.all _ _ hK
  refine wpAny_bind (wpAny_holding (super_attr RR.in1.room hK hso (fun a o e => D₁₅.keep a o (X a o e) (by simp [away])) ?_))
  intro f h₁₆ t₁₆ G₁₆ hf _
  have D₁₆ := Mine.Mem.up D₁₅ G₁₆.all
  clear D₁₅
  replace hK := G₁₆.all _ _ hK
  refine wpAny_bind (wpAny_mono (of_AX RR.room (bnd_AX hK hf)) ?_ (fun _ _ e => e))
  rintro v s' ⟨h₁₇, t₁₇, rfl, G₁₇⟩
  have D₁₇ := Mine.Mem.up D₁₆ G₁₇.all
  clear D₁₆
  refine wpAny_pure ?_
  refine wpAny_pure ?_
  exact q K nd md h₁₇ t₁₇ hv hd t D₁₇
end
end Mine
end
section
open PySem PySem.W PySem.W.X PyProof.Rows PySem.Calls
set_option maxRecDepth 100000
namespace Mine
noncomputable abbrev PKey := Pos × Str
theorem codeAmong_other {pos pos' : Pos} {c : Value} (hne : ¬ (pos'.line = pos.line ∧ pos'.col = pos.col)) (l : List Value) (h : TriplesOk l) : codeAmong pos (l ++ [rawInt pos'.line, rawInt pos'.col, c]) = codeAmong pos l := by
  fun_induction TriplesOk l with
  | case1 =>
    have : ((pos'.line : Int) == pos.line && (pos'.col : Int) == pos.col) = false := by
      rw [Bool.eq_false_iff]; intro q
      rw [Bool.and_eq_true, beq_iff_eq, beq_iff_eq] at q
      exact hne ⟨by omega, by omega⟩
    show codeAmong pos [rawInt pos'.line, rawInt pos'.col, c] = none
    simp only [rawInt, codeAmong, this]
    rfl
  | case2 a1 t1 a2 t2 c' rest ih =>
    show codeAmong pos (_ :: _ :: _ :: (rest ++ _)) = _
    simp only [codeAmong]
    rw [ih h]
  | case3 => exact absurd h (by simp)
/-- the table of codes at P: what is known of the codes at the keys; those of hits are there -/
structure TabS (h : Heap) (P : Addr) (keys hits : List PKey) : Prop where
  ex : ∃ ps, h.get? P = some (tabObj ps) ∧ TriplesOk ps.toList ∧ (∀ k ∈ keys, codeAmong k.1 ps.toList = none ∨ ∃ c oc, codeAmong k.1 ps.toList = some (.ref c) ∧ h.get? c = some oc ∧ CodeOb oc k.2 ∧ c ≠ P) ∧ (∀ k ∈ hits, ∃ c oc, codeAmong k.1 ps.toList = some (.ref c) ∧ h.get? c = some oc ∧ CodeOb oc k.2 ∧ c ≠ P)
theorem TabS.gr {h h' : Heap} {P : Addr} {keys hits : List PKey} (T : TabS h P keys hits) (G : ∀ b o, h.get? b = some o → h'.get? b = some o) : TabS h' P keys hits := by
  obtain ⟨ps, e, ht, a, b⟩ := T
  refine ⟨ps, G _ _ e, ht, fun k hk => (a k hk).imp id fun ⟨c, oc, e1, e2, e3⟩ => ⟨c, oc, e1, G _ _ e2, e3⟩, fun k hk => ?_⟩
  obtain ⟨c, oc, e1, e2, e3⟩ := b k hk
  exact ⟨c, oc, e1, G _ _ e2, e3⟩
theorem TabS.ext {h h' : Heap} {P a : Addr} {keys hits : List PKey} (T : TabS h P keys hits) (hP : P ≠ a) (hc : ∀ c oc q, h.get? c = some oc → CodeOb oc q → c ≠ a) (G : Heap.ExtBut a h h') : TabS h' P keys hits := by
  obtain ⟨ps, e, ht, x, y⟩ := T
  refine ⟨ps, G _ _ hP e, ht, fun k hk => (x k hk).imp id fun ⟨c, oc, e1, e2, e3, e4⟩ => ⟨c, oc, e1, G _ _ (hc _ _ _ e2 e3) e2, e3, e4⟩, fun k hk => ?_⟩
  obtain ⟨c, oc, e1, e2, e3, e4⟩ := y k hk
  exact ⟨c, oc, e1, G _ _ (hc _ _ _ e2 e3) e2, e3, e4⟩
section
variable {w : World} {mg mb : Str → Option Value} {g : Array GenState} {d : Drawn} {os : OsState}
/-- a new code at P's end, where there is none yet -/
theorem TabS.add {h h' : Heap} {P c' : Addr} {keys hits : List PKey} {k : PKey} {ps : Array Value} (e : h.get? P = some (tabObj ps)) (ht : TriplesOk ps.toList)
    (a : ∀ k ∈ keys, codeAmong k.1 ps.toList = none ∨ ∃ c oc, codeAmong k.1 ps.toList = some (.ref c) ∧ h.get? c = some oc ∧ CodeOb oc k.2 ∧ c ≠ P) (b : ∀ k ∈ hits, ∃ c oc, codeAmong k.1 ps.toList = some (.ref c) ∧ h.get? c = some oc ∧ CodeOb oc k.2 ∧ c ≠ P)
    (hd : ∀ k' ∈ keys, k' = k ∨ ¬ (k.1.line = k'.1.line ∧ k.1.col = k'.1.col)) (hh : ∀ k' ∈ hits, k' ∈ keys) (no : codeAmong k.1 ps.toList = none) (hx : Heap.ExtBut P h h') (hP' : h'.get? P = some (tabObj (ps ++ #[rawInt k.1.line, rawInt k.1.col, .ref c'])))
    {oc : Obj} (hc' : h'.get? c' = some oc) (hco : CodeOb oc k.2) (hne : c' ≠ P) : TabS h' P keys (k :: hits) := by
  have self : ∃ c oc, codeAmong k.1 (ps ++ #[rawInt k.1.line, rawInt k.1.col, .ref c']).toList = some (.ref c) ∧ h'.get? c = some oc ∧ CodeOb oc k.2 ∧ c ≠ P := by
    refine ⟨c', oc, ?_, hc', hco, hne⟩
    rw [Array.toList_append]; exact codeAmong_snoc _ ht no
  have oth : ∀ k' ∈ keys, ¬ (k.1.line = k'.1.line ∧ k.1.col = k'.1.col) → codeAmong k'.1 (ps ++ #[rawInt k.1.line, rawInt k.1.col, .ref c']).toList = codeAmong k'.1 ps.toList := fun k' _ n => by
    rw [Array.toList_append]; exact codeAmong_other n _ ht
  refine ⟨_, hP', ?_, fun k' hk' => ?_, fun k' hk' => ?_⟩
  · rw [Array.toList_append]; exact TriplesOk_snoc _ _ _ _ ht
  · rcases hd k' hk' with rfl | n
    · exact .inr self
    · rw [oth k' hk' n]
      exact (a k' hk').imp id fun ⟨c, oc, e1, e2, e3, e4⟩ => ⟨c, oc, e1, hx _ _ e4 e2, e3, e4⟩
  · rcases List.mem_cons.mp hk' with rfl | hk'
    · exact self
    · rcases hd k' (hh k' hk') with rfl | n
      · exact self
      · rw [oth k' (hh k' hk') n]
        obtain ⟨c, oc, e1, e2, e3, e4⟩ := b k' hk'
        exact ⟨c, oc, e1, hx _ _ e4 e2, e3, e4⟩
theorem TabS.hit {h : Heap} {P : Addr} {keys hits : List PKey} {k : PKey} (T : TabS h P keys hits) (hk : k ∈ keys) {ps : Array Value} (e : h.get? P = some (tabObj ps)) {c : Addr} (yes : codeAmong k.1 ps.toList = some (.ref c)) : TabS h P keys (k :: hits) := by
  obtain ⟨ps', e', ht, a, b⟩ := id T
  rw [e] at e'; cases e'
  refine ⟨ps, e, ht, a, fun k' hk' => ?_⟩
  rcases List.mem_cons.mp hk' with rfl | hk'
  · rcases a _ hk with n | x
    · rw [yes] at n; cases n
    · exact x
  · exact b k' hk'
set_option maxHeartbeats 1000000 in
theorem def_make {A : Around} {E : Value → Shared → Prop} {Q : Value → Shared → Prop} {name : Str} {params : Arguments} {body : List Stmt} {scope : Scope} {env : Env} {firstLine : Nat} {clos : List (Str × Addr)} {h : Heap} {t : Nat} {c P : Addr} {keys hits : List PKey} {k : PKey}
    (W : Wd w mg mb h) (T : TabS h P keys hits) (hk : k ∈ keys) (hd : ∀ k' ∈ keys, k' = k ∨ ¬ (k.1.line = k'.1.line ∧ k.1.col = k'.1.col)) (hh : ∀ k' ∈ hits, k' ∈ keys) (C : CodeHd h c P) (hP : P ≠ mainGlobals ∧ P ≠ 4) (hcl : closureFor scope env = pure clos) (hg : env.globals = mainGlobals) (hcode : env.code = .ref c)
    (q : ∀ f h' t' cf oc doc pm ctv, Gr [P] h h' → (k ∈ hits → Gr [] h h') → h.get? f = none → h'.get? f = some (fnMade name k.2 params body scope clos doc pm cf ctv) → TabS h' P keys (k :: hits) → h'.get? cf = some oc → CodeOb oc k.2 → cf ≠ P → Q (.ref f) ⟨h', g, d, t', os⟩) :
    wpAny (MM w) A (makeFunction name k.2 params (.stmts body) scope env [] [] [] k.1 firstLine) Q E ⟨h, g, d, t, os⟩ := by
  obtain ⟨ps, hz, ht, a, b⟩ := id T
  rcases a k hk with no | ⟨cf, oc, yes, hc, hco, hne⟩
  · refine makeFunction_K (mg := mg) hcl hg W.g hcode C hz ht no hP.1.symm (bltAt W P hP.2) fun c' ctv doc h' tk hx hge hlt hrec htb => ?_
    obtain ⟨c₂, oc, vs, tq, e2, hoc, hd', hv⟩ := hrec
    cases e2
    have n0 : h.get? c' = none := Heap.get?_none_of_le hge
    have hne : c' ≠ P := (none_ne n0 hz).symm
    have up : ∀ b o, h'.get? b = some o → (h'.push (fnMade name k.2 params body scope clos doc ((mg "__name__").getD .none) c' ctv)).get? b = some o := fun b o e => Heap.get?_push_of_some _ e
    have T' : TabS h' P keys (k :: hits) := TabS.add (c' := c') hz ht a b hd hh no hx htb hoc ⟨vs, tq, hd', hv⟩ hne
    refine q h'.objs.size _ tk c' oc doc _ ctv ⟨fun b o n e => up _ _ (hx b o (by simpa using n) e)⟩ (fun hk => ?_) (Heap.get?_none_of_le (Nat.le_trans hge (Nat.le_of_lt hlt))) (Heap.get?_push_size _ rfl) (T'.gr up) (up _ _ hoc) ⟨vs, tq, hd', hv⟩ hne
    obtain ⟨c3, oc3, e3, _⟩ := b k hk
    rw [no] at e3; cases e3
  · refine makeFunction_hit (mg := mg) hcl hg W.g hcode C hz ht yes (bltAt W P hP.2) fun ctv doc h' tk hk' hsz => ?_
    have up : ∀ b o, h.get? b = some o → (h'.push (fnMade name k.2 params body scope clos doc ((mg "__name__").getD .none) cf ctv)).get? b = some o := fun b o e => Heap.get?_push_of_some _ (hk' b o e)
    exact q h'.objs.size _ tk cf oc doc _ ctv ⟨fun b o _ e => up b o e⟩ (fun _ => ⟨fun b o _ e => up b o e⟩) (Heap.get?_none_of_le hsz) (Heap.get?_push_size _ rfl) ((T.hit hk hz yes).gr up) (up _ _ hc) hco hne
end
end Mine
end
section
open PySem PySem.W PySem.W.X PyProof.Rows PySem.Calls
set_option maxRecDepth 100000
namespace Mine
noncomputable def clsPos : Pos := { line := 18, col := 4, endLine := 39, endCol := 23 }
noncomputable def qK : Str := "cmp_to_key.<locals>.K"
noncomputable def keys6 : List PKey := [({ line := 22, col := 8, endLine := 23, endCol := 26 }, "cmp_to_key.<locals>.K.__init__"), ({ line := 25, col := 8, endLine := 26, endCol := 49 }, "cmp_to_key.<locals>.K.__lt__"), ({ line := 28, col := 8, endLine := 29, endCol := 49 }, "cmp_to_key.<locals>.K.__gt__"),
  ({ line := 31, col := 8, endLine := 32, endCol := 50 }, "cmp_to_key.<locals>.K.__eq__"), ({ line := 34, col := 8, endLine := 35, endCol := 50 }, "cmp_to_key.<locals>.K.__le__"), ({ line := 37, col := 8, endLine := 38, endCol := 50 }, "cmp_to_key.<locals>.K.__ge__")]
/-- the class's code and its table, where the six codes below it stand or not -/
structure ClsC (h : Heap) (c P : Addr) (hits : List PKey) : Prop where
  hd : CodeHd h c P
  n1 : P ≠ mainGlobals
  n2 : P ≠ 4
  n3 : P ≠ 24
  n4 : P ≠ 64
  n5 : c ≠ 24
  tab : TabS h P keys6 hits
noncomputable def ClsHit (h : Heap) (c : Addr) : Prop := ∃ ps, h.get? 24 = some (tabObj ps) ∧ TriplesOk ps.toList ∧ codeAmong clsPos ps.toList = some (.ref c)
noncomputable def ClsSt (h : Heap) : Prop := (∃ ps, h.get? 24 = some (tabObj ps) ∧ TriplesOk ps.toList ∧ codeAmong clsPos ps.toList = none) ∨ ∃ c P, ClsHit h c ∧ ClsC h c P keys6
section
variable {w : World} {mg mb : Str → Option Value} {g : Array GenState} {d : Drawn} {os : OsState}
theorem codeHd29 {h : Heap} (W : Wd w mg mb h) : CodeHd h 28 24 := ⟨_, _, _, _, _, _, _, _, _, W.k 28 _ rfl, rfl, rfl, rfl, rfl, rfl, rfl, rfl, rfl, by decide⟩
set_option maxHeartbeats 1000000 in
theorem class_code {A : Around} {E : Value → Shared → Prop} {Q : Value → Shared → Prop} {env : Env} {firstLine : Nat} {name : Str} {scope : Scope} {h : Heap} {t : Nat}
    (W : Wd w mg mb h) (h64 : ∃ o, h.get? 64 = some o) (T : ClsSt h) (hcode : env.code = .ref 28)
    (q : ∀ c P h' t' hits, Gr [24] h h' → ClsC h' c P hits → ClsHit h' c → ((h.get? P = none ∧ hits = []) ∨ (hits = keys6 ∧ h' = h)) → Q (.ref c) ⟨h', g, d, t', os⟩) :
    wpAny (MM w) A (classCode env clsPos firstLine name qK scope) Q E ⟨h, g, d, t, os⟩ := by
  have C := codeHd29 W
  rcases T with ⟨ps, hz, ht, no⟩ | ⟨c, P, ⟨ps, hz, ht, yes⟩, T⟩
  · have hok := C.code hz ht
    obtain ⟨o, vs, file, tf, flags, tg, inF, text, tt, op, ho, hd, h11, h2, h7, h9, h10, hop, hpd, htr, hne⟩ := id hok
    rw [hz] at hop; cases hop
    unfold classCode codeAt
    rw [hcode, if_neg (show ¬ ((Value.ref 28 == Value.none) = true) from Bool.false_ne_true)]
    refine wpAny_bind (wpAny_fieldsOf ho hd ?_)
    rw [h11]
    refine wpAny_bind (wpAny_fieldsOf hz rfl ?_)
    rw [no, h2, h7, h9, h10]
    refine wpAny_bind (wpAny_newCodeX fun c' P' h' tk hk hc' hP' hcode' htab' hrec' => ?_)
    have hz' := hk _ _ hz
    refine wpAny_bind (wpAny_updateFieldsOfTheText hz' rfl ?_)
    have hnew : Obj.mapFields (fun vs => if (codeAmong clsPos vs.toList).isSome = true then vs else vs ++ #[rawInt clsPos.line, rawInt clsPos.col, .ref c']) (tabObj ps) = tabObj (ps ++ #[rawInt clsPos.line, rawInt clsPos.col, .ref c']) := by
      show tabObj (if (codeAmong clsPos ps.toList).isSome = true then ps else _) = _
      rw [no]; rfl
    have hget := Heap.get?_update_self (h := h') (fun o => Obj.mapFields (fun vs => if (codeAmong clsPos vs.toList).isSome = true then vs else vs ++ #[rawInt clsPos.line, rawInt clsPos.col, .ref c']) o) hz' (by rw [hnew]; rfl)
    rw [hnew] at hget
    refine wpAny_bind (wpAny_fieldsOf hget rfl ?_)
    have hl : codeAmong clsPos (ps ++ #[rawInt clsPos.line, rawInt clsPos.col, Value.ref c']).toList = some (.ref c') := by
      rw [Array.toList_append]; exact codeAmong_snoc _ ht no
    rw [hl]
    have n24 : ∀ a, h.objs.size ≤ a → a ≠ 24 := fun a ha => (none_ne (Heap.get?_none_of_le ha) hz).symm
    have nold : ∀ a b o, h.objs.size ≤ a → h.get? b = some o → a ≠ b := fun a b o ha e => (none_ne (Heap.get?_none_of_le ha) e).symm
    have sb := (Heap.SameBut.update (h := h') (a := 24) (f := fun o => Obj.mapFields (fun vs => if (codeAmong clsPos vs.toList).isSome = true then vs else vs ++ #[rawInt clsPos.line, rawInt clsPos.col, .ref c']) o)).extBut
    refine wpAny_pure (q c' P' _ tk [] ⟨fun b o n e => sb b o (by simpa using n) (hk b o e)⟩ ⟨?_, ?_, ?_, n24 _ hP', ?_, n24 _ hc', ?_⟩ ⟨_, hget, ?_, hl⟩ (.inl ⟨Heap.get?_none_of_le hP', rfl⟩))
    · obtain ⟨o, vs, file, tf, flags, tg, inF, text, tt, e1, r⟩ := CodeHd.of hcode' htab'
      exact ⟨o, vs, file, tf, flags, tg, inF, text, tt, sb _ _ (n24 _ hc') e1, r⟩
    · obtain ⟨o, _, _, e, _⟩ := W.g; exact nold _ _ _ hP' e
    · obtain ⟨ob, e, _⟩ := W.m4; exact nold _ _ _ hP' e
    · obtain ⟨o, e⟩ := h64; exact nold _ _ _ hP' e
    · refine ⟨#[], sb _ _ (n24 _ hP') htab'.2, trivial, fun k hk => .inl rfl, fun k hk => nomatch hk⟩
    · rw [Array.toList_append]; exact TriplesOk_snoc _ _ _ _ ht
  · refine wpAny_codeAt_hit hcode (C.code hz ht) yes ?_
    exact q c P h t keys6 (Gr.refl _ _) T ⟨ps, hz, ht, yes⟩ (.inr ⟨rfl, rfl⟩)
end
end Mine
end
section
open PySem PySem.W PySem.W.X PyProof.Rows PySem.Calls
set_option maxRecDepth 100000
namespace Mine
noncomputable abbrev prepO : Obj := { cls := .type "builtin_function_or_method", data := .fields #[.builtin "type.__prepare__", .type "type"] }
theorem slot_type_ga : Slot "type" "__getattribute__" "type.__getattribute__" := .of (owner := "type") (n := "__getattribute__") (by rw [typeLookup_type, builtinLookup_eq_fast]; kernel_rfl) (by decide +kernel) (by decide +kernel) (by decide +kernel)
  (by first | exact .inl (by decide +kernel) | exact .inr (by decide +kernel)) (by rw [isSubtype_type]; kernel_rfl)
theorem ty_type : typeOf (.type "type") = pure (.type "type") := by kernel_rfl
section
variable {prog : Program} {w : World} {g : Array GenState} {d : Drawn} {os : OsState}
local macro_rules | `(tactic| x_close) => `(tactic| (refine ⟨_, _, _, rfl, rfl, mem_gr (by assumption), Mem.at (by assumption) 0 _ _ rfl, (Mem.nw (by assumption) _ (.head _)).2⟩))
set_option maxHeartbeats 0 in
theorem tga_AX {E : Value → Shared → Prop} {h : Heap} {t tn : Nat} :
    wpAny (model prog w) AX (call (.builtin "type.__getattribute__") [.type "type", .str "__prepare__" tn]) (fun v s' => ∃ f h' t', v = .ref f ∧ s' = ⟨h', g, d, t', os⟩ ∧ Gr [] h h' ∧ h'.get? f = some prepO ∧ h.get? f = none) E ⟨h, g, d, t, os⟩ := by
  x_run
set_option maxHeartbeats 0 in
theorem prep_AX {E : Value → Shared → Prop} {h : Heap} {t tk : Nat} {p bt : Addr} (hp : h.get? p = some { cls := .type "builtin_function_or_method", data := .fields #[.builtin "type.__prepare__", .type "type"] }) :
    wpAny (model prog w) AX (call (.ref p) [.str "K" tk, .ref bt]) (fun v s' => ∃ f h' t', v = .ref f ∧ s' = ⟨h', g, d, t', os⟩ ∧ Gr [] h h' ∧ h'.get? f = some { cls := .type "dict", data := .dict #[] 0 } ∧ h.get? f = none) E ⟨h, g, d, t, os⟩ := by
  x_run
theorem prep_attr {A : Around} {E : Value → Shared → Prop} {Q : Option Value → Shared → Prop} {h : Heap} {t : Nat} (R : Room A)
    (q : ∀ f h' t', Gr [] h h' → h'.get? f = some prepO → h.get? f = none → Q (some (.ref f)) ⟨h', g, d, t', os⟩) :
    wpAny (MM w) A (getAttr? (.type "type") "__prepare__") Q E ⟨h, g, d, t, os⟩ := by
  have hlk := slot_type_ga.lookup
  unfold getAttr? getAttrBy? getAttrBy
  refine wpAny_bind (wpAny_mkText (wpAny_bind (wpAny_attempt (wpAny_holding (wpAny_bind (wpAny_of_eq ty_type (wpAny_bind (wpAny_of_eq hlk ?_))))))))
  show wpAny _ _ (getAttrByItsOwn (.type "type") (.str "__prepare__" t) (.type "type") (.builtin "type.__getattribute__") false false) _ _ _
  unfold getAttrByItsOwn hookBefore callGetattribute boundAndCalled
  refine wpAny_bind (wpAny_of_eq (show (if onTheHeap (.type "type") then typeLookup (.type "type") "__getattr__" else pure none) = pure none from rfl) ?_)
  refine wpAny_bind (wpAny_attempt (wpAny_holding ?_))
  show wpAny _ _ (bindSpecial (.builtin "type.__getattribute__") (.type "type") >>= _) _ _ _
  refine wpAny_bind (wpAny_of_eq (slot_type_ga.bind _) ?_)
  refine wpAny_mono (of_AX R tga_AX) (fun v s' hv => ?_) (fun _ _ z => z)
  obtain ⟨f, h', t', rfl, rfl, G, hf, nf⟩ := hv
  exact wpAny_pure (wpAny_pure (q f h' t' G hf nf))
end
end Mine
namespace Mine
theorem look_dict_getitem : typeLookup (.type "dict") "__getitem__" = pure (some (.builtin "dict.__getitem__")) := by rw [typeLookup_type, builtinLookup_eq_fast]; kernel_rfl
end Mine
end
section
open PySem PySem.W PySem.W.X PyProof.Rows PySem.Calls
set_option maxRecDepth 100000
namespace Mine
noncomputable abbrev nsO (es : Array DictEntry) (ep : Nat) : Obj := { cls := .type "dict", data := .dict es ep }
structure CB (h₀ : Heap) (ns P c : Addr) (es : Array DictEntry) (ep : Nat) (hits : List PKey) (fs : Facts) (h : Heap) : Prop where
  gr : Gr [24] h₀ h
  n0 : h₀.get? ns = none
  en : h.get? ns = some (nsO es ep)
  cls : ClsC h c P hits
  hit24 : ClsHit h c
  mode : h₀.get? P = none ∨ ∀ k ∈ keys6, k ∈ hits
  sub : ∀ k ∈ hits, k ∈ keys6
  has : Has fs h
  away : ∀ p ∈ fs, p.1 ≠ ns ∧ p.1 ≠ P ∧ p.1 ≠ 24
  np : P ≠ ns
  n24 : ns ≠ 24
theorem keys6_apart : ∀ k ∈ keys6, ∀ k' ∈ keys6, k' = k ∨ ¬ (k.1.line = k'.1.line ∧ k.1.col = k'.1.col) := by decide +kernel
section
variable {h₀ h h' : Heap} {ns P c : Addr} {es : Array DictEntry} {ep : Nat} {hits : List PKey} {fs : Facts}
theorem ClsC.gr (x : ClsC h c P hits) (k : ∀ b o, h.get? b = some o → h'.get? b = some o) : ClsC h' c P hits := ⟨x.hd.keeps k, x.n1, x.n2, x.n3, x.n4, x.n5, x.tab.gr k⟩
theorem ClsHit.gr (x : ClsHit h c) (k : ∀ o, h.get? 24 = some o → h'.get? 24 = some o) : ClsHit h' c := let ⟨ps, e, r⟩ := x; ⟨ps, k _ e, r⟩
theorem codeOb_ne {o : Obj} {q : Str} (x : CodeOb o q) {c ns : Addr} (e : h.get? c = some o) (e' : h.get? ns = some (nsO es ep)) : c ≠ ns := fun z => by
  subst z; rw [e] at e'; cases e'
  obtain ⟨vs, tq, e1, _⟩ := x; cases e1
/-- things made: nothing else has turned -/
theorem CB.grow (B : CB h₀ ns P c es ep hits fs h) (G : Gr [] h h') {gs : Facts} (hg : Has gs h') (nw : ∀ p ∈ gs, h.get? p.1 = none) : CB h₀ ns P c es ep hits (gs ++ fs) h' := by
  have lvP : ∃ o, h.get? P = some o := by obtain ⟨ps, e, _⟩ := B.cls.tab; exact ⟨_, e⟩
  have lv24 : ∃ o, h.get? 24 = some o := by obtain ⟨ps, e, _⟩ := B.hit24; exact ⟨_, e⟩
  refine ⟨B.gr.trans G.weak, B.n0, G.all _ _ B.en, B.cls.gr G.all, B.hit24.gr (G.all _), B.mode, B.sub, fun p hp => ?_, fun p hp => ?_, B.np, B.n24⟩
  · rcases List.mem_append.mp hp with hp | hp
    · exact hg p hp
    · exact G.all _ _ (B.has p hp)
  · rcases List.mem_append.mp hp with hp | hp
    · obtain ⟨oP, eP⟩ := lvP
      obtain ⟨o24, e24⟩ := lv24
      exact ⟨(none_ne (nw p hp) B.en).symm, (none_ne (nw p hp) eP).symm, (none_ne (nw p hp) e24).symm⟩
    · exact B.away p hp
/-- the names' dict has turned -/
theorem CB.store (B : CB h₀ ns P c es ep hits fs h) {es' : Array DictEntry} {ep' : Nat} (sb : Heap.SameBut ns h h') (e : h'.get? ns = some (nsO es' ep')) : CB h₀ ns P c es' ep' hits fs h' := by
  have hx := sb.extBut
  refine ⟨⟨fun b o n q => hx _ _ (none_ne B.n0 q) (B.gr.keep b o n q)⟩, B.n0, e, ?_, ?_, B.mode, B.sub, fun p hp => hx _ _ (B.away p hp).1 (B.has p hp), B.away, B.np, B.n24⟩
  · have cne : c ≠ ns := by
      obtain ⟨o, vs, _, _, _, _, _, _, _, e1, e2, e3, _⟩ := B.cls.hd
      intro z; subst z; rw [B.en] at e1; cases e1; simp at e2
    refine ⟨?_, B.cls.n1, B.cls.n2, B.cls.n3, B.cls.n4, B.cls.n5, B.cls.tab.ext B.np (fun c oc q e1 e2 => codeOb_ne e2 e1 B.en) hx⟩
    obtain ⟨o, vs, file, tf, flags, tg, inF, text, tt, e1, r⟩ := B.cls.hd
    exact ⟨o, vs, file, tf, flags, tg, inF, text, tt, hx _ _ cne e1, r⟩
  · exact B.hit24.gr fun o q => hx _ _ B.n24.symm q
/-- a def under the class is made -/
theorem CB.def (B : CB h₀ ns P c es ep hits fs h) {k : PKey} (hk : k ∈ keys6) (G : Gr [P] h h') (G' : k ∈ hits → Gr [] h h') {f cf : Addr} {o oc : Obj} (nf : h.get? f = none) (hf : h'.get? f = some o) (T : TabS h' P keys6 (k :: hits)) (hcf : h'.get? cf = some oc) (hoc : CodeOb oc k.2) (hcP : cf ≠ P) : CB h₀ ns P c es ep (k :: hits) ((f, o) :: (cf, oc) :: fs) h' := by
  have lvP : ∃ o, h.get? P = some o := by obtain ⟨ps, e, _⟩ := B.cls.tab; exact ⟨_, e⟩
  have lv24 : ∃ o, h.get? 24 = some o := by obtain ⟨ps, e, _⟩ := B.hit24; exact ⟨_, e⟩
  have h24 : cf ≠ 24 := by
    obtain ⟨ps, e, ht, _⟩ := B.hit24.gr (h' := h') fun o q => G.keep _ _ (by simpa using B.cls.n3.symm) q
    intro z; subst z; rw [hcf] at e; cases e
    exact tab_not_code ht hoc
  have keep : ∀ b o, b ≠ P → h.get? b = some o → h'.get? b = some o := fun b o n e => G.keep b o (by simpa using n) e
  have cP : c ≠ P := by obtain ⟨_, _, _, _, _, _, _, _, _, _, _, _, _, _, _, _, _, _, n⟩ := B.cls.hd; exact n
  have ens := keep _ _ B.np.symm B.en
  refine ⟨⟨fun b o n q => ?_⟩, B.n0, ens, ⟨?_, B.cls.n1, B.cls.n2, B.cls.n3, B.cls.n4, B.cls.n5, T⟩, B.hit24.gr fun o q => keep _ _ B.cls.n3.symm q, ?_, fun k' hk' => ?_, fun p hp => ?_, fun p hp => ?_, B.np, B.n24⟩
  · have q' := B.gr.keep b o n q
    rcases B.mode with m | m
    · exact keep _ _ (none_ne m q) q'
    · exact (G' (m k hk)).all _ _ q'
  · obtain ⟨o, vs, file, tf, flags, tg, inF, text, tt, e1, r⟩ := B.cls.hd
    exact ⟨o, vs, file, tf, flags, tg, inF, text, tt, keep _ _ cP e1, r⟩
  · exact B.mode.imp id fun m k hk => List.mem_cons_of_mem _ (m k hk)
  · rcases List.mem_cons.mp hk' with rfl | hk'
    · exact hk
    · exact B.sub _ hk'
  · rcases List.mem_cons.mp hp with rfl | hp
    · exact hf
    · rcases List.mem_cons.mp hp with rfl | hp
      · exact hcf
      · exact keep _ _ (B.away p hp).2.1 (B.has p hp)
  · rcases List.mem_cons.mp hp with rfl | hp
    · obtain ⟨oP, eP⟩ := lvP
      obtain ⟨o24, e24⟩ := lv24
      exact ⟨(none_ne nf B.en).symm, (none_ne nf eP).symm, (none_ne nf e24).symm⟩
    · rcases List.mem_cons.mp hp with rfl | hp
      · exact ⟨codeOb_ne hoc hcf ens, hcP, h24⟩
      · exact B.away p hp
end
end Mine
end
section
open PySem PySem.W PySem.W.X PyProof.Rows PySem.Calls
set_option maxRecDepth 100000
namespace Mine
theorem tabs24 : Tabs [24] := fun t ht => .inl (List.mem_singleton.mp ht)
section
variable {w : World} {mg mb : Str → Option Value} {g : Array GenState} {d : Drawn} {os : OsState} {A : Around} {E : Value → Shared → Prop}
variable {h₀ h : Heap} {ns P c : Addr} {es : Array DictEntry} {ep : Nat} {hits : List PKey} {fs : Facts} {t : Nat} {env : Env} {x : Str} {v : Value}
theorem CB.wd (B : CB h₀ ns P c es ep hits fs h) (W : Wd w mg mb h₀) : Wd w mg mb h := W.gr tabs24 B.gr
theorem c_store {Q : Unit → Shared → Prop} (B : CB h₀ ns P c es ep hits fs h) (eL : env.locals = ns) (hs : storeName env x v = localSet env x v) (es' : Int → Tok → Value → Array DictEntry) (ep' : Nat) (ha : aRefKeyMayBeTheName x es = false)
    (hput : ∀ hv tk vv, Obj.putName x hv (.str x tk) vv (nsO es ep) = nsO (es' hv tk vv) ep') (q : ∀ hv tk vv h' t', vv = v → CB h₀ ns P c (es' hv tk vv) ep' hits fs h' → Q () ⟨h', g, d, t', os⟩) : wpAny (MM w) A (storeName env x v) Q E ⟨h, g, d, t, os⟩ := by
  rw [hs]
  unfold localSet
  rw [eL]
  refine wpAny_bind (wpAny_load B.en ?_)
  show wpAny _ _ (if ((Value.type "dict") == .type "dict") = true then nsSet ns x v else _) _ _ _
  rw [if_pos (by decide)]
  unfold nsSet strHash
  refine wpAny_bind (wpAny_bind (a_hash fun hv => ?_))
  refine wpAny_bind (wpAny_mkText ?_)
  refine wpAny_bind (wpAny_loadPart B.en ?_)
  show wpAny _ _ (if aRefKeyMayBeTheName x es = true then _ else _) _ _ _
  rw [ha, if_neg Bool.false_ne_true]
  have hu := Heap.get?_update_self (Obj.putName x hv (.str x t) v) B.en (by rw [hput]; rfl)
  rw [hput] at hu
  exact wpAny_updatePart B.en (q hv _ _ _ _ rfl (B.store (Heap.SameBut.update ..) hu))
theorem b_alloc {o : Obj} {Q : Addr → Shared → Prop} (B : CB h₀ ns P c es ep hits fs h) (hf : o.isFreed = false) (q : ∀ a h', h.get? a = none → CB h₀ ns P c es ep hits ((a, o) :: fs) h' → Q a ⟨h', g, d, t, os⟩) : wpAny (MM w) A (alloc o) Q E ⟨h, g, d, t, os⟩ :=
  wpAny_alloc (q _ _ (size_none h) (B.grow (gs := [(h.objs.size, o)]) (Gr.push _ _ _) (fun p hp => by rw [List.mem_singleton.mp hp]; exact Heap.get?_push_size _ hf) (fun p hp => by rw [List.mem_singleton.mp hp]; exact size_none h)))
theorem b_allocE {o o' : Obj} {Q : Addr → Shared → Prop} (B : CB h₀ ns P c es ep hits fs h) (ho : o = o') (hf : o'.isFreed = false) (q : ∀ a h', h.get? a = none → CB h₀ ns P c es ep hits ((a, o') :: fs) h' → Q a ⟨h', g, d, t, os⟩) : wpAny (MM w) A (alloc o) Q E ⟨h, g, d, t, os⟩ := by subst ho; exact b_alloc B hf q
theorem CB.drop {fs' : Facts} (B : CB h₀ ns P c es ep hits fs h) (hs : ∀ p ∈ fs', p ∈ fs) : CB h₀ ns P c es ep hits fs' h :=
  ⟨B.gr, B.n0, B.en, B.cls, B.hit24, B.mode, B.sub, fun p hp => B.has p (hs p hp), fun p hp => B.away p (hs p hp), B.np, B.n24⟩
theorem c_name {Q : Value → Shared → Prop} (B : CB h₀ ns P c es ep hits fs h) (W : Wd w mg mb h) (eL : env.locals = ns) (ek : env.scope.kind = .class) (eg : env.globals = mainGlobals) (en : env.scope.names.lookup ("__name__" : Str) = none) (hno : (nsLook "__name__" (nsO es ep) : Sem _) = pure none)
    (hv : mg "__name__" = some v) (q : Q v ⟨h, g, d, t, os⟩) : wpAny (MM w) A (loadName env "__name__") Q E ⟨h, g, d, t, os⟩ := by
  unfold loadName
  have e1 : env.blockKind = .class := by unfold Env.blockKind; rw [ek]; rfl
  have e2 : env.kindOf "__name__" = none := en
  have e3 : (env.scope.kind.isAnnotationScope && env.kindOf "__classdict__" == some NameKind.free && (("__name__" : Str) != "__classdict__")) = false := by rw [ek]; rfl
  rw [e3, if_neg Bool.false_ne_true, e1, e2]
  show wpAny _ _ (if (!compilersOwnNames.contains "__name__") = true then _ else _) _ _ _
  rw [if_neg (by decide)]
  unfold localGet
  rw [eL]
  refine wpAny_bind (wpAny_bind (wpAny_load B.en ?_))
  show wpAny _ _ (if ((Value.type "dict") == .type "dict") = true then _ else _) _ _ _
  rw [if_pos (by decide)]
  unfold nsGet
  refine wpAny_bind (wpAny_bind (wpAny_loadPart B.en (wpAny_pure ?_)))
  rw [hno]
  refine wpAny_pure ?_
  dsimp only
  unfold loadGlobal
  rw [eg]
  refine wpAny_bind (wpAny_nsGet W.g ?_)
  rw [hv]
  exact wpAny_pure q
end
end Mine
end
section
open PySem PySem.W PySem.W.X PyProof.Rows PySem.Calls
set_option maxRecDepth 100000
namespace Mine
section
variable {w : World} {g : Array GenState} {d : Drawn} {os : OsState}
set_option maxHeartbeats 1000000 in
theorem type_class {A : Around} {Q : Value → Shared → Prop} {E : Value → Shared → Prop} {h : Heap} {t tk : Nat} {bt ns sl sa f0 f1 f2 f3 f4 f5 : Addr} {e0 e1 e2 e3 e4 e5 e6 e7 e8 e9 e10 e11 : Int} {t0 t0' t1 t1' t2 t2' t3 t4 t5 t6 t7 t8 t9 t10 t11 ts : Tok}
    {ts1 : Tok} {F0 F1 F2 F3 F4 F5 : FuncData}
    (hbt : h.get? bt = some { cls := .type "tuple", data := .seq #[.type "object"] 0 })
    (hns : h.get? ns = some { cls := .type "dict", data := .dict #[DE e0 "__module__" t0 (.str "cpy313.functools" t0'), DE e1 "__qualname__" t1 (.str "cmp_to_key.<locals>.K" t1'), DE e2 "__firstlineno__" t2 (.int 18 t2'), DE e3 "__slots__" t3 (.ref sl), DE e4 "__init__" t4 (.ref f0), DE e5 "__lt__" t5 (.ref f1), DE e6 "__gt__" t6 (.ref f2), DE e7 "__eq__" t7 (.ref f3), DE e8 "__le__" t8 (.ref f4), DE e9 "__ge__" t9 (.ref f5), DE e10 "__hash__" t10 .none, DE e11 "__static_attributes__" t11 (.ref sa)] 12 })
    (hsl : h.get? sl = some { cls := .type "list", data := .seq #[.str "obj" ts] 0 })
    (hsa : h.get? sa = some { cls := .type "tuple", data := .seq #[.str "obj" ts1] 0 })
    (hf0 : h.get? f0 = some { cls := .type "function", data := .func F0 }) (hf1 : h.get? f1 = some { cls := .type "function", data := .func F1 }) (hf2 : h.get? f2 = some { cls := .type "function", data := .func F2 }) (hf3 : h.get? f3 = some { cls := .type "function", data := .func F3 }) (hf4 : h.get? f4 = some { cls := .type "function", data := .func F4 }) (hf5 : h.get? f5 = some { cls := .type "function", data := .func F5 })
    (hnm : ns ≠ sysModules) (X : (K0 w.params).In h) (RR : RoomN 0 20 A)
    (q : ∀ K nd md h' t' hv hd tm, Mem h h' [] [(md, { cls := .type "member_descriptor", data := .fields #[.str "obj" tm, .ref K, .builtin "proto.slot", .builtin "proto.slot#set", .int 0 0] }), (K, KO nd [.ref K, .type "object"] false ["obj"] #[some (.ref bt), none, some (.str "K" tk), some (.str "cmp_to_key.<locals>.K" t1'), some (.builtin "object.__new__"), some (.bool false)]), (nd, { cls := .type "dict", data := .dict #[DE e0 "__module__" t0 (.str "cpy313.functools" t0'), DE e2 "__firstlineno__" t2 (.int 18 t2'), DE e3 "__slots__" t3 (.ref sl), DE e4 "__init__" t4 (.ref f0), DE e5 "__lt__" t5 (.ref f1), DE e6 "__gt__" t6 (.ref f2), DE e7 "__eq__" t7 (.ref f3), DE e8 "__le__" t8 (.ref f4), DE e9 "__ge__" t9 (.ref f5), DE e10 "__hash__" t10 .none, DE e11 "__static_attributes__" t11 (.ref sa), DE hv "obj" (tm + 1) (.ref md), DE hd "__doc__" (tm + 2) .none] 3 })] → Q (.ref K) ⟨h', g, d, t', os⟩) :
    wpAny (MM w) A (call (.type "type") [.str "K" tk, .ref bt, .ref ns]) Q E ⟨h, g, d, t, os⟩ := by
  refine tcall (Q₁ := fun v s' => ∃ K nd md h' t' hv hd tm, v = .ref K ∧ s' = ⟨h', g, d, t', os⟩ ∧ Mem h h' [] [(md, { cls := .type "member_descriptor", data := .fields #[.str "obj" tm, .ref K, .builtin "proto.slot", .builtin "proto.slot#set", .int 0 0] }), (K, KO nd [.ref K, .type "object"] false ["obj"] #[some (.ref bt), none, some (.str "K" tk), some (.str "cmp_to_key.<locals>.K" t1'), some (.builtin "object.__new__"), some (.bool false)]), (nd, { cls := .type "dict", data := .dict #[DE e0 "__module__" t0 (.str "cpy313.functools" t0'), DE e2 "__firstlineno__" t2 (.int 18 t2'), DE e3 "__slots__" t3 (.ref sl), DE e4 "__init__" t4 (.ref f0), DE e5 "__lt__" t5 (.ref f1), DE e6 "__gt__" t6 (.ref f2), DE e7 "__eq__" t7 (.ref f3), DE e8 "__le__" t8 (.ref f4), DE e9 "__ge__" t9 (.ref f5), DE e10 "__hash__" t10 .none, DE e11 "__static_attributes__" t11 (.ref sa), DE hv "obj" (tm + 1) (.ref md), DE hd "__doc__" (tm + 2) .none] 3 })]) (tnew (codeAny_builtin entry_type_new ?_)) ?_
  · rw [Around.under_plainId plain_type_new _]
    refine tnew_walk hbt hns hsl hsa hf0 hf1 hf2 hf3 hf4 hf5 hnm X (RR.in1.in1.le (by omega) (by omega)) ?_
    intro K nd md h' t' hv hd tm D
    exact ⟨K, nd, md, h', t', hv, hd, tm, rfl, rfl, D⟩
  · rintro obj s₁ ⟨K, nd, md, h', t', hv, hd, tm, rfl, rfl, D⟩
    exact ⟨⟨_, D.at 1 _ _ rfl, rfl⟩, q K nd md h' t' hv hd tm D⟩
theorem s_locX {A : Around} {E : Value → Shared → Prop} {h : Heap} {L : Addr} {m : Str → Option Value} {env : Env} {x : Str} {v : Value} {t : Nat} {Q : Unit → Shared → Prop} (N : h.Ns L m) (hL : env.locals = L) (hl : env.kindOf x = some .local) (hp : (env.scope.kind == .class || (env.scope.kind == .module && env.locals != env.globals)) = false)
    (q : ∀ h', h'.Ns L (fun y => if y = x then some v else m y) → Heap.SameBut L h h' → Q () ⟨h', g, d, t + 1, os⟩) : wpAny (MM w) A (storeName env x v) Q E ⟨h, g, d, t, os⟩ := by
  subst hL
  exact wpAny_storeName_local (m := m) hl N (fun h' hn hs => q h' hn hs) hp
theorem not_frame {h : Heap} {L a : Addr} {m : Str → Option Value} {o : Obj} (N : h.Ns L m) (e : h.get? a = some o) (hd : ∀ es n, o.data ≠ .dict es n) : a ≠ L := by
  obtain ⟨ol, es, ep, e', hd', _⟩ := N
  intro z; subst z; rw [e] at e'; cases e'; exact hd _ _ hd'
end
/-- what is left of the class K for its calls -/
inductive KRel (a0 a1 : Arguments) (b0 b1 : List Stmt) (s0 s1 : Scope) (fs : Facts) (K cm : Addr) : Prop
  | mk (bt nd md sl sa f0 f1 f2 f3 f4 f5 cf0 cf1 : Addr) (e0 e2 e3 e4 e5 e6 e7 e8 e9 e10 e11 hv hd : Int) (tk t0 t0' t1' t2 t2' t3 t4 t5 t6 t7 t8 t9 t10 t11 tm : Tok) (oc0 oc1 oc : Obj) (doc0 doc1 pm0 pm1 ctv0 ctv1 : Value)
    (efs : fs = [(K, KO nd [.ref K, .type "object"] false ["obj"] #[some (.ref bt), none, some (.str "K" tk), some (.str "cmp_to_key.<locals>.K" t1'), some (.builtin "object.__new__"), some (.bool false)]),
      (nd, { cls := .type "dict", data := .dict #[DE e0 "__module__" t0 (.str "cpy313.functools" t0'), DE e2 "__firstlineno__" t2 (.int 18 t2'), DE e3 "__slots__" t3 (.ref sl), DE e4 "__init__" t4 (.ref f0), DE e5 "__lt__" t5 (.ref f1), DE e6 "__gt__" t6 (.ref f2), DE e7 "__eq__" t7 (.ref f3), DE e8 "__le__" t8 (.ref f4), DE e9 "__ge__" t9 (.ref f5), DE e10 "__hash__" t10 .none, DE e11 "__static_attributes__" t11 (.ref sa), DE hv "obj" (tm + 1) (.ref md), DE hd "__doc__" (tm + 2) .none] 3 }),
      (md, { cls := .type "member_descriptor", data := .fields #[.str "obj" tm, .ref K, .builtin "proto.slot", .builtin "proto.slot#set", .int 0 0] }),
      (f0, fnMade "__init__" "cmp_to_key.<locals>.K.__init__" a0 b0 s0 [] doc0 pm0 cf0 ctv0), (f1, fnMade "__lt__" "cmp_to_key.<locals>.K.__lt__" a1 b1 s1 [(("mycmp" : Str), cm)] doc1 pm1 cf1 ctv1), (cf0, oc0), (cf1, oc1), (cm, oc)])
    (h0 : CodeOb oc0 "cmp_to_key.<locals>.K.__init__") (h1 : CodeOb oc1 "cmp_to_key.<locals>.K.__lt__") (h2 : oc.data = .cell (some (.ref 45))) : KRel a0 a1 b0 b1 s0 s1 fs K cm
theorem KRel.mk' {a0 a1 : Arguments} {b0 b1 : List Stmt} {s0 s1 : Scope} {K cm : Addr} {bt nd md sl sa f0 f1 f2 f3 f4 f5 cf0 cf1 : Addr} {e0 e2 e3 e4 e5 e6 e7 e8 e9 e10 e11 hv hd : Int} {tk t0 t0' t1' t2 t2' t3 t4 t5 t6 t7 t8 t9 t10 t11 tm : Tok} {oc0 oc1 oc : Obj} {doc0 doc1 pm0 pm1 ctv0 ctv1 : Value}
    (h0 : CodeOb oc0 "cmp_to_key.<locals>.K.__init__") (h1 : CodeOb oc1 "cmp_to_key.<locals>.K.__lt__") (h2 : oc.data = .cell (some (.ref 45))) : KRel a0 a1 b0 b1 s0 s1 [(K, KO nd [.ref K, .type "object"] false ["obj"] #[some (.ref bt), none, some (.str "K" tk), some (.str "cmp_to_key.<locals>.K" t1'), some (.builtin "object.__new__"), some (.bool false)]),
      (nd, { cls := .type "dict", data := .dict #[DE e0 "__module__" t0 (.str "cpy313.functools" t0'), DE e2 "__firstlineno__" t2 (.int 18 t2'), DE e3 "__slots__" t3 (.ref sl), DE e4 "__init__" t4 (.ref f0), DE e5 "__lt__" t5 (.ref f1), DE e6 "__gt__" t6 (.ref f2), DE e7 "__eq__" t7 (.ref f3), DE e8 "__le__" t8 (.ref f4), DE e9 "__ge__" t9 (.ref f5), DE e10 "__hash__" t10 .none, DE e11 "__static_attributes__" t11 (.ref sa), DE hv "obj" (tm + 1) (.ref md), DE hd "__doc__" (tm + 2) .none] 3 }),
      (md, { cls := .type "member_descriptor", data := .fields #[.str "obj" tm, .ref K, .builtin "proto.slot", .builtin "proto.slot#set", .int 0 0] }),
      (f0, fnMade "__init__" "cmp_to_key.<locals>.K.__init__" a0 b0 s0 [] doc0 pm0 cf0 ctv0), (f1, fnMade "__lt__" "cmp_to_key.<locals>.K.__lt__" a1 b1 s1 [(("mycmp" : Str), cm)] doc1 pm1 cf1 ctv1), (cf0, oc0), (cf1, oc1), (cm, oc)] K cm :=
  ⟨bt, nd, md, sl, sa, f0, f1, f2, f3, f4, f5, cf0, cf1, e0, e2, e3, e4, e5, e6, e7, e8, e9, e10, e11, hv, hd, tk, t0, t0', t1', t2, t2', t3, t4, t5, t6, t7, t8, t9, t10, t11, tm, oc0, oc1, oc, doc0, doc1, pm0, pm1, ctv0, ctv1, rfl, h0, h1, h2⟩
theorem all8 {P : Addr × Obj → Prop} {p1 p2 p3 p4 p5 p6 p7 p8 : Addr × Obj} (h1 : P p1) (h2 : P p2) (h3 : P p3) (h4 : P p4) (h5 : P p5) (h6 : P p6) (h7 : P p7) (h8 : P p8) : ∀ p ∈ [p1, p2, p3, p4, p5, p6, p7, p8], P p := by
  intro p hp
  simp only [List.mem_cons, List.not_mem_nil, or_false] at hp
  rcases hp with rfl | rfl | rfl | rfl | rfl | rfl | rfl | rfl <;> assumption
theorem has8 {h : Heap} {q1 q2 q3 q4 q5 q6 q7 q8 : Addr} {o1 o2 o3 o4 o5 o6 o7 o8 : Obj} (h1 : h.get? q1 = some o1) (h2 : h.get? q2 = some o2) (h3 : h.get? q3 = some o3) (h4 : h.get? q4 = some o4) (h5 : h.get? q5 = some o5) (h6 : h.get? q6 = some o6) (h7 : h.get? q7 = some o7) (h8 : h.get? q8 = some o8) :
    Has [(q1, o1), (q2, o2), (q3, o3), (q4, o4), (q5, o5), (q6, o6), (q7, o7), (q8, o8)] h := all8 (P := fun p => h.get? p.1 = some p.2) h1 h2 h3 h4 h5 h6 h7 h8
theorem code_not_dict {o : Obj} {q : Str} (x : CodeOb o q) : ∀ es n, o.data ≠ .dict es n := by
  obtain ⟨vs, tq, e, _⟩ := x
  intro es n z; rw [e] at z; cases z
end Mine
end
section
open PySem PySem.W PySem.W.X PyProof.Rows PySem.Calls
set_option maxRecDepth 100000
namespace Mine
section
variable {w : World} {mg mb : Str → Option Value} {g : Array GenState} {d : Drawn} {os : OsState}
theorem ClsSt.gr {h h' : Heap} (x : ClsSt h) (k : ∀ b o, h.get? b = some o → h'.get? b = some o) : ClsSt h' := by
  rcases x with ⟨ps, e, r⟩ | ⟨c, P, a, b⟩
  · exact .inl ⟨ps, k _ _ e, r⟩
  · exact .inr ⟨c, P, a.gr fun o e => k _ _ e, b.gr k⟩
theorem store_local {env : Env} {x : Str} {v : Value} (ek : env.scope.kind = .class) (el : env.scope.names.lookup x = some .local) : storeName env x v = localSet env x v := by
  unfold storeName Env.kindOf
  rw [el, ek]; rfl
theorem store_own {env : Env} {x : Str} {v : Value} (ek : env.scope.kind = .class) (el : env.scope.names.lookup x = none) (hc : compilersOwnNames.contains x = true) : storeName env x v = localSet env x v := by
  unfold storeName Env.kindOf Env.blockKind
  rw [el, ek, hc]; rfl
theorem TabS.less {h : Heap} {P : Addr} {keys hits hits' : List PKey} (T : TabS h P keys hits) (k : ∀ x ∈ hits', x ∈ hits) : TabS h P keys hits' := by
  obtain ⟨ps, e, ht, a, b⟩ := T
  exact ⟨ps, e, ht, a, fun x hx => b x (k x hx)⟩
theorem not_in {h h' : Heap} (k : ∀ b o, h.get? b = some o → h'.get? b = some o) {a : Addr} (n : h'.get? a = none) : h.get? a = none := by
  cases e : h.get? a with
  | none => rfl
  | some o => rw [k _ _ e] at n; cases n
set_option maxHeartbeats 0 in
theorem class_def {A : Around} {E : Value → Shared → Prop} {Q : Flow → Shared → Prop} {h₀ h : Heap} {t : Nat} {L cm : Addr} {m : Str → Option Value} {oc : Obj} {env : Env} {scope : Scope} {po pos : Pos} {statics : List Str} {x1 : Option Scope} {bind : Str}
    {q1 q2 q3 q4 q5 q6 q7 q8 q9 q10 : Pos} {k1 k2 k3 : Nat} {a0 a1 a2 a3 a4 a5 : Arguments} {b0 b1 b2 b3 b4 b5 : List Stmt} {s0 s1 s2 s3 s4 s5 : Scope}
    (R : RoomN 2 30 A) (W : Wd w mg mb h) (T : ClsSt h) (h64 : ∃ o, h.get? 64 = some o) (S : Sta [] h₀ L m [(cm, oc)] h) (hoc : oc.data = .cell (some (.ref 45)))
    (eL : env.locals = L) (ek : env.scope.kind = .function) (eg : env.globals = mainGlobals) (eb : env.builtins = builtinsNs) (ec : env.code = .ref 28) (em : env.cells.lookup ("mycmp" : Str) = some cm) (eo : env.kindOf "object" = some .globalImplicit) (eK : env.kindOf "K" = some .local) (eq : qualnameIn env "K" bind = qK)
    (hbind : bind = "K") (hpos : pos = clsPos) (hst : statics = [("obj" : Str)]) (sc1 : scope.names.lookup ("__class__" : Str) = none) (sc2 : scope.names.lookup ("__classdict__" : Str) = none) (scl : closureFor scope env = pure [(("mycmp" : Str), cm)])
    (skind : scope.kind = .class) (sl : ∀ x ∈ (["__module__", "__slots__", "__init__", "__lt__", "__gt__", "__eq__", "__le__", "__ge__", "__hash__"] : List Str), scope.names.lookup x = some .local) (sn : ∀ x ∈ (["__name__", "__qualname__", "__firstlineno__", "__static_attributes__"] : List Str), scope.names.lookup x = none)
    (hargs : ∀ a ∈ [a0, a1, a2, a3, a4, a5], a.defaults = [] ∧ a.kw_defaults = [] ∧ ∀ env, annTrees a none env = []) (hcl0 : ∀ env, closureFor s0 env = pure []) (hcl : ∀ s ∈ [s1, s2, s3, s4, s5], ∀ env : Env, env.cells.lookup ("mycmp" : Str) = some cm → closureFor s env = pure [(("mycmp" : Str), cm)])
    (q : ∀ K fs h' t', Sta [24] h₀ L (fun y => if y = "K" then some (.ref K) else m y) [(cm, oc)] h' → KRel a0 a1 b0 b1 s0 s1 fs K cm → Has fs h' → ClsSt h' → (∀ p ∈ fs, p.1 ≠ L ∧ p.1 ≠ 24) → h.get? K = none → Q .next ⟨h', g, d, t', os⟩) :
    wpAny (MM w) A (exec (.ClassDef "K" [.Name "object" po] [] [.Assign [.Name "__module__" q1] (.Constant (.str "cpy313.functools") k1 q2) q3, .Assign [.Name "__slots__" q4] (.List [.Constant (.str "obj") k2 q5] q6) q7, .FunctionDef "__init__" a0 b0 [] none [] s0 none "__init__" ⟨22, 8, 23, 26⟩, .FunctionDef "__lt__" a1 b1 [] none [] s1 none "__lt__" ⟨25, 8, 26, 49⟩, .FunctionDef "__gt__" a2 b2 [] none [] s2 none "__gt__" ⟨28, 8, 29, 49⟩, .FunctionDef "__eq__" a3 b3 [] none [] s3 none "__eq__" ⟨31, 8, 32, 50⟩, .FunctionDef "__le__" a4 b4 [] none [] s4 none "__le__" ⟨34, 8, 35, 50⟩, .FunctionDef "__ge__" a5 b5 [] none [] s5 none "__ge__" ⟨37, 8, 38, 50⟩, .Assign [.Name "__hash__" q8] (.Constant .none k3 q9) q10] [] [] scope x1 bind statics pos) env) Q E ⟨h, g, d, t, os⟩ := by
  rw [arm_exec_ClassDef]
  subst hbind hpos hst
  obtain ⟨r6, hr6⟩ : ∃ r, r = [Stmt.Assign [.Name "__hash__" q8] (.Constant .none k3 q9) q10] := ⟨_, rfl⟩
  obtain ⟨r5, hr5⟩ : ∃ r, r = Stmt.FunctionDef "__ge__" a5 b5 [] none [] s5 none "__ge__" ⟨37, 8, 38, 50⟩ :: r6 := ⟨_, rfl⟩
  obtain ⟨r4, hr4⟩ : ∃ r, r = Stmt.FunctionDef "__le__" a4 b4 [] none [] s4 none "__le__" ⟨34, 8, 35, 50⟩ :: r5 := ⟨_, rfl⟩
  obtain ⟨r3, hr3⟩ : ∃ r, r = Stmt.FunctionDef "__eq__" a3 b3 [] none [] s3 none "__eq__" ⟨31, 8, 32, 50⟩ :: r4 := ⟨_, rfl⟩
  obtain ⟨r2, hr2⟩ : ∃ r, r = Stmt.FunctionDef "__gt__" a2 b2 [] none [] s2 none "__gt__" ⟨28, 8, 29, 49⟩ :: r3 := ⟨_, rfl⟩
  obtain ⟨r1, hr1⟩ : ∃ r, r = Stmt.FunctionDef "__lt__" a1 b1 [] none [] s1 none "__lt__" ⟨25, 8, 26, 49⟩ :: r2 := ⟨_, rfl⟩
  obtain ⟨r0, hr0⟩ : ∃ r, r = Stmt.FunctionDef "__init__" a0 b0 [] none [] s0 none "__init__" ⟨22, 8, 23, 26⟩ :: r1 := ⟨_, rfl⟩
  obtain ⟨bd, hbd⟩ : ∃ r, r = Stmt.Assign [.Name "__module__" q1] (.Constant (.str "cpy313.functools") k1 q2) q3 :: Stmt.Assign [.Name "__slots__" q4] (.List [.Constant (.str "obj") k2 q5] q6) q7 :: r0 := ⟨_, rfl⟩
  have hbd' : bd = [.Assign [.Name "__module__" q1] (.Constant (.str "cpy313.functools") k1 q2) q3, .Assign [.Name "__slots__" q4] (.List [.Constant (.str "obj") k2 q5] q6) q7, .FunctionDef "__init__" a0 b0 [] none [] s0 none "__init__" ⟨22, 8, 23, 26⟩, .FunctionDef "__lt__" a1 b1 [] none [] s1 none "__lt__" ⟨25, 8, 26, 49⟩, .FunctionDef "__gt__" a2 b2 [] none [] s2 none "__gt__" ⟨28, 8, 29, 49⟩, .FunctionDef "__eq__" a3 b3 [] none [] s3 none "__eq__" ⟨31, 8, 32, 50⟩, .FunctionDef "__le__" a4 b4 [] none [] s4 none "__le__" ⟨34, 8, 35, 50⟩, .FunctionDef "__ge__" a5 b5 [] none [] s5 none "__ge__" ⟨37, 8, 38, 50⟩, .Assign [.Name "__hash__" q8] (.Constant .none k3 q9) q10] := by rw [hbd, hr0, hr1, hr2, hr3, hr4, hr5, hr6]
  rw [← hbd']
  refine wpAny_bind (wpAny_pure ?_)
  refine wpAny_bind (wpAny_standAt ?_)
  unfold buildClassGuard
  rw [eb]
  refine wpAny_bind (wpAny_bind (wpAny_nsGet W.b ?_))
  rw [W.blt (x := "__build_class__") (v := .builtin "__build_class__") rfl]
  refine wpAny_pure ?_
  refine wpAny_bind (wpAny_holding ?_)
  refine wpAny_bind ?_
  unfold evalArgs
  refine wpAny_bind (wpAny_items_cons ?_)
  refine n_blt W rfl rfl ?_ eg eb ek eo
  refine wpAny_items_nil ?_
  have D := Mem.start h
  have hT1 := ty_object
  have hT2 := ty_type
  have hS3 := st_type
  repeat (first
    | with_reducible (first | refine wpAny_bind ?_ | refine wpAny_pure ?_ | refine wpAny_holding ?_ | refine wpAny_rule ?_ | refine wpAny_standAt ?_ | refine wpAny_point ?_ | refine wpAny_of_eq (by assumption) ?_ | refine wpAny_fresh' ?_)
    | (with_reducible refine a_load2 ?_; refine ⟨_, (by first | assumption | exact Mem.old (by assumption) _ _ (by assumption) rfl | exact Mem.at (by assumption) 0 _ _ rfl | exact Mem.at (by assumption) 1 _ _ rfl | exact Mem.at (by assumption) 2 _ _ rfl | exact Mem.at (by assumption) 3 _ _ rfl | exact Mem.at (by assumption) 4 _ _ rfl | exact Mem.at (by assumption) 5 _ _ rfl | exact Mem.at (by assumption) 6 _ _ rfl | exact Mem.at (by assumption) 7 _ _ rfl), ?_⟩)
    | (with_reducible refine a_loadPart2 ?_; refine ⟨_, (by first | assumption | exact Mem.old (by assumption) _ _ (by assumption) rfl | exact Mem.at (by assumption) 0 _ _ rfl | exact Mem.at (by assumption) 1 _ _ rfl | exact Mem.at (by assumption) 2 _ _ rfl | exact Mem.at (by assumption) 3 _ _ rfl | exact Mem.at (by assumption) 4 _ _ rfl | exact Mem.at (by assumption) 5 _ _ rfl | exact Mem.at (by assumption) 6 _ _ rfl | exact Mem.at (by assumption) 7 _ _ rfl), ?_⟩)
    | with_reducible (first | refine a_ifF (by assumption) ?_ | refine a_ifT (by assumption) ?_)
    | (with_reducible refine wpAny_ite_false ?_ ?_; focus (first | kernel_rfl! | (simp; done)))
    | (with_reducible refine wpAny_ite_true ?_ ?_; focus (first | kernel_rfl! | (simp; done)))
    | (with_reducible refine a_collect (sl := sl) (ts := ts) ?_ hsl ?_; focus kernel_rfl)
    | with_reducible refine a_try ?_
    | ((fail_if_success (with_reducible first | show wpAny _ _ (PySem.getAttr? _ _) _ _ _ | show wpAny _ _ (PySem.classCode _ _ _ _ _ _) _ _ _ | show wpAny _ _ (PySem.builtinsFor _ _) _ _ _ | show wpAny _ _ (PySem.nsGet _ _) _ _ _ | show wpAny _ _ PySem.enterFrame _ _ _ | show wpAny _ _ (PySem.loadName _ _) _ _ _ | show wpAny _ _ (PySem.storeName _ _ _) _ _ _ | show wpAny _ _ (PySem.run _ _) _ _ _)); wp_delta)
    | with_reducible_and_instances refine wpAny_pure ?_
    | with_reducible_and_instances refine wpAny_bind ?_
    | with_reducible refine wpAny_runValue ?_)
  refine a_allocE (o' := { cls := .type "tuple", data := .seq #[.type "object"] 0 }) D (by kernel_rfl!) rfl ?_
  intro bt h₁ D₁
  clear D
  repeat (first
    | with_reducible (first | refine wpAny_bind ?_ | refine wpAny_pure ?_ | refine wpAny_holding ?_ | refine wpAny_rule ?_ | refine wpAny_standAt ?_ | refine wpAny_point ?_ | refine wpAny_of_eq (by assumption) ?_ | refine wpAny_fresh' ?_)
    | (with_reducible refine a_load2 ?_; refine ⟨_, (by first | assumption | exact Mem.old (by assumption) _ _ (by assumption) rfl | exact Mem.at (by assumption) 0 _ _ rfl | exact Mem.at (by assumption) 1 _ _ rfl | exact Mem.at (by assumption) 2 _ _ rfl | exact Mem.at (by assumption) 3 _ _ rfl | exact Mem.at (by assumption) 4 _ _ rfl | exact Mem.at (by assumption) 5 _ _ rfl | exact Mem.at (by assumption) 6 _ _ rfl | exact Mem.at (by assumption) 7 _ _ rfl), ?_⟩)
    | (with_reducible refine a_loadPart2 ?_; refine ⟨_, (by first | assumption | exact Mem.old (by assumption) _ _ (by assumption) rfl | exact Mem.at (by assumption) 0 _ _ rfl | exact Mem.at (by assumption) 1 _ _ rfl | exact Mem.at (by assumption) 2 _ _ rfl | exact Mem.at (by assumption) 3 _ _ rfl | exact Mem.at (by assumption) 4 _ _ rfl | exact Mem.at (by assumption) 5 _ _ rfl | exact Mem.at (by assumption) 6 _ _ rfl | exact Mem.at (by assumption) 7 _ _ rfl), ?_⟩)
    | with_reducible (first | refine a_ifF (by assumption) ?_ | refine a_ifT (by assumption) ?_)
    | (with_reducible refine wpAny_ite_false ?_ ?_; focus (first | kernel_rfl! | (simp; done)))
    | (with_reducible refine wpAny_ite_true ?_ ?_; focus (first | kernel_rfl! | (simp; done)))
    | (with_reducible refine a_collect (sl := sl) (ts := ts) ?_ hsl ?_; focus kernel_rfl)
    | with_reducible refine a_try ?_
    | ((fail_if_success (with_reducible first | show wpAny _ _ (PySem.getAttr? _ _) _ _ _ | show wpAny _ _ (PySem.classCode _ _ _ _ _ _) _ _ _ | show wpAny _ _ (PySem.builtinsFor _ _) _ _ _ | show wpAny _ _ (PySem.nsGet _ _) _ _ _ | show wpAny _ _ PySem.enterFrame _ _ _ | show wpAny _ _ (PySem.loadName _ _) _ _ _ | show wpAny _ _ (PySem.storeName _ _ _) _ _ _ | show wpAny _ _ (PySem.run _ _) _ _ _)); wp_delta)
    | with_reducible_and_instances refine wpAny_pure ?_
    | with_reducible_and_instances refine wpAny_bind ?_
    | with_reducible refine wpAny_runValue ?_)
  show wpAny (MM w) A (getAttr? (.type "type") "__prepare__") _ _ _
  have W₁ := W.gr Tabs.nil (mem_gr D₁)
  refine prep_attr R.room ?_
  intro pp h₂ t₂ G₂ hpp _
  have D₂ := Mine.Mem.up D₁ G₂.all
  clear D₁
  repeat (first
    | with_reducible (first | refine wpAny_bind ?_ | refine wpAny_pure ?_ | refine wpAny_holding ?_ | refine wpAny_rule ?_ | refine wpAny_standAt ?_ | refine wpAny_point ?_ | refine wpAny_of_eq (by assumption) ?_ | refine wpAny_fresh' ?_)
    | (with_reducible refine a_load2 ?_; refine ⟨_, (by first | assumption | exact Mem.old (by assumption) _ _ (by assumption) rfl | exact Mem.at (by assumption) 0 _ _ rfl | exact Mem.at (by assumption) 1 _ _ rfl | exact Mem.at (by assumption) 2 _ _ rfl | exact Mem.at (by assumption) 3 _ _ rfl | exact Mem.at (by assumption) 4 _ _ rfl | exact Mem.at (by assumption) 5 _ _ rfl | exact Mem.at (by assumption) 6 _ _ rfl | exact Mem.at (by assumption) 7 _ _ rfl), ?_⟩)
    | (with_reducible refine a_loadPart2 ?_; refine ⟨_, (by first | assumption | exact Mem.old (by assumption) _ _ (by assumption) rfl | exact Mem.at (by assumption) 0 _ _ rfl | exact Mem.at (by assumption) 1 _ _ rfl | exact Mem.at (by assumption) 2 _ _ rfl | exact Mem.at (by assumption) 3 _ _ rfl | exact Mem.at (by assumption) 4 _ _ rfl | exact Mem.at (by assumption) 5 _ _ rfl | exact Mem.at (by assumption) 6 _ _ rfl | exact Mem.at (by assumption) 7 _ _ rfl), ?_⟩)
    | with_reducible (first | refine a_ifF (by assumption) ?_ | refine a_ifT (by assumption) ?_)
    | (with_reducible refine wpAny_ite_false ?_ ?_; focus (first | kernel_rfl! | (simp; done)))
    | (with_reducible refine wpAny_ite_true ?_ ?_; focus (first | kernel_rfl! | (simp; done)))
    | (with_reducible refine a_collect (sl := sl) (ts := ts) ?_ hsl ?_; focus kernel_rfl)
    | with_reducible refine a_try ?_
    | ((fail_if_success (with_reducible first | show wpAny _ _ (PySem.getAttr? _ _) _ _ _ | show wpAny _ _ (PySem.classCode _ _ _ _ _ _) _ _ _ | show wpAny _ _ (PySem.builtinsFor _ _) _ _ _ | show wpAny _ _ (PySem.nsGet _ _) _ _ _ | show wpAny _ _ PySem.enterFrame _ _ _ | show wpAny _ _ (PySem.loadName _ _) _ _ _ | show wpAny _ _ (PySem.storeName _ _ _) _ _ _ | show wpAny _ _ (PySem.run _ _) _ _ _)); wp_delta)
    | with_reducible_and_instances refine wpAny_pure ?_
    | with_reducible_and_instances refine wpAny_bind ?_
    | with_reducible refine wpAny_runValue ?_)
  show wpAny (MM w) A (call (.ref pp) [.str "K" t, .ref bt]) _ _ _
  refine wpAny_mono (of_AX R.room (prep_AX hpp)) ?_ (fun _ _ e => e)
  rintro v s' ⟨ns, h₃, t₃, rfl, rfl, G₃, hns, nns⟩
  have D₃ := Mine.Mem.up D₂ G₃.all
  have W₂ := W.gr Tabs.nil (mem_gr D₂)
  have W₃ := W.gr Tabs.nil (mem_gr D₃)
  have hnsm : ns ≠ sysModules := (none_ne nns W₂.sm.choose_spec).symm
  have hnm2 : (ns == sysModules) = false := by simpa using hnsm
  have hL3 := look_dict_getitem
  have hk1 : (scope.names.lookup ("__class__" : Str) == some NameKind.cell) = false := by rw [sc1]; rfl
  have hk2 : (scope.names.lookup ("__classdict__" : Str) == some NameKind.cell) = false := by rw [sc2]; rfl
  repeat (first
    | with_reducible (first | refine wpAny_bind ?_ | refine wpAny_pure ?_ | refine wpAny_holding ?_ | refine wpAny_rule ?_ | refine wpAny_standAt ?_ | refine wpAny_point ?_ | refine wpAny_of_eq (by assumption) ?_ | refine wpAny_fresh' ?_)
    | (with_reducible refine a_load2 ?_; refine ⟨_, (by first | assumption | exact Mem.old (by assumption) _ _ (by assumption) rfl | exact Mem.at (by assumption) 0 _ _ rfl | exact Mem.at (by assumption) 1 _ _ rfl | exact Mem.at (by assumption) 2 _ _ rfl | exact Mem.at (by assumption) 3 _ _ rfl | exact Mem.at (by assumption) 4 _ _ rfl | exact Mem.at (by assumption) 5 _ _ rfl | exact Mem.at (by assumption) 6 _ _ rfl | exact Mem.at (by assumption) 7 _ _ rfl), ?_⟩)
    | (with_reducible refine a_loadPart2 ?_; refine ⟨_, (by first | assumption | exact Mem.old (by assumption) _ _ (by assumption) rfl | exact Mem.at (by assumption) 0 _ _ rfl | exact Mem.at (by assumption) 1 _ _ rfl | exact Mem.at (by assumption) 2 _ _ rfl | exact Mem.at (by assumption) 3 _ _ rfl | exact Mem.at (by assumption) 4 _ _ rfl | exact Mem.at (by assumption) 5 _ _ rfl | exact Mem.at (by assumption) 6 _ _ rfl | exact Mem.at (by assumption) 7 _ _ rfl), ?_⟩)
    | with_reducible (first | refine a_ifF (by assumption) ?_ | refine a_ifT (by assumption) ?_)
    | (with_reducible refine wpAny_ite_false ?_ ?_; focus (first | kernel_rfl! | (simp; done)))
    | (with_reducible refine wpAny_ite_true ?_ ?_; focus (first | kernel_rfl! | (simp; done)))
    | (with_reducible refine a_collect (sl := sl) (ts := ts) ?_ hsl ?_; focus kernel_rfl)
    | with_reducible refine a_try ?_
    | ((fail_if_success (with_reducible first | show wpAny _ _ (PySem.getAttr? _ _) _ _ _ | show wpAny _ _ (PySem.classCode _ _ _ _ _ _) _ _ _ | show wpAny _ _ (PySem.builtinsFor _ _) _ _ _ | show wpAny _ _ (PySem.nsGet _ _) _ _ _ | show wpAny _ _ PySem.enterFrame _ _ _ | show wpAny _ _ (PySem.loadName _ _) _ _ _ | show wpAny _ _ (PySem.storeName _ _ _) _ _ _ | show wpAny _ _ (PySem.run _ _) _ _ _)); wp_delta)
    | with_reducible_and_instances refine wpAny_pure ?_
    | with_reducible_and_instances refine wpAny_bind ?_
    | with_reducible refine wpAny_runValue ?_)
  rw [eq]
  have h64₃ : ∃ o, h₃.get? 64 = some o := by obtain ⟨o, e⟩ := h64; exact ⟨o, (mem_gr D₃).all _ _ e⟩
  refine class_code W₃ h64₃ (T.gr (mem_gr D₃).all) ec ?_
  intro c P h₄ t₄ hits G₄ CC CH md
  have hbt₃ := D₃.at 0 _ _ rfl
  have n24 : ∀ {a o}, h₃.get? a = some o → o.cls ≠ .none → a ≠ 24 := by
    intro a o e n z
    subst z
    obtain ⟨ps, e', _⟩ | ⟨c', P', ⟨ps, e', _⟩, _⟩ := T.gr (mem_gr D₃).all
    · rw [e] at e'; cases e'; exact n rfl
    · rw [e] at e'; cases e'; exact n rfl
  have nP : ∀ {a o}, h₄.get? a = some o → o.cls ≠ .none → a ≠ P := by
    intro a o e n z
    subst z
    obtain ⟨ps, e', _⟩ := CC.tab
    rw [e] at e'; cases e'; exact n rfl
  have hns₄ := G₄.keep _ _ (by simpa using n24 hns (by simp)) hns
  have hbt₄ := G₄.keep _ _ (by simpa using n24 hbt₃ (by simp)) hbt₃
  have B : CB h ns P c #[] 0 hits [(bt, { cls := .type "tuple", data := .seq #[.type "object"] 0 })] h₄ := by
    refine ⟨(mem_gr D₃).weak.trans G₄, not_in (mem_gr D₂).all nns, hns₄, CC, CH, ?_, ?_, fun p hp => ?_, fun p hp => ?_, (nP hns₄ (by simp)).symm, n24 hns (by simp)⟩
    · rcases md with ⟨m, _⟩ | ⟨rfl, _⟩
      · exact .inl (not_in (mem_gr D₃).all m)
      · exact .inr fun k hk => hk
    · rcases md with ⟨_, rfl⟩ | ⟨rfl, _⟩
      · intro k hk; cases hk
      · exact fun k hk => hk
    · rw [List.mem_singleton.mp hp]; exact hbt₄
    · rw [List.mem_singleton.mp hp]
      refine ⟨?_, nP hbt₄ (by simp), n24 hbt₃ (by simp)⟩
      exact (none_ne nns (D₂.at 0 _ _ rfl))
  repeat (first
    | with_reducible (first | refine wpAny_bind ?_ | refine wpAny_pure ?_ | refine wpAny_holding ?_ | refine wpAny_rule ?_ | refine wpAny_standAt ?_ | refine wpAny_point ?_ | refine wpAny_of_eq (by assumption) ?_ | refine wpAny_fresh' ?_)
    | (with_reducible refine a_load2 ?_; refine ⟨_, (by first | assumption | exact Mem.old (by assumption) _ _ (by assumption) rfl | exact Mem.at (by assumption) 0 _ _ rfl | exact Mem.at (by assumption) 1 _ _ rfl | exact Mem.at (by assumption) 2 _ _ rfl | exact Mem.at (by assumption) 3 _ _ rfl | exact Mem.at (by assumption) 4 _ _ rfl | exact Mem.at (by assumption) 5 _ _ rfl | exact Mem.at (by assumption) 6 _ _ rfl | exact Mem.at (by assumption) 7 _ _ rfl), ?_⟩)
    | (with_reducible refine a_loadPart2 ?_; refine ⟨_, (by first | assumption | exact Mem.old (by assumption) _ _ (by assumption) rfl | exact Mem.at (by assumption) 0 _ _ rfl | exact Mem.at (by assumption) 1 _ _ rfl | exact Mem.at (by assumption) 2 _ _ rfl | exact Mem.at (by assumption) 3 _ _ rfl | exact Mem.at (by assumption) 4 _ _ rfl | exact Mem.at (by assumption) 5 _ _ rfl | exact Mem.at (by assumption) 6 _ _ rfl | exact Mem.at (by assumption) 7 _ _ rfl), ?_⟩)
    | with_reducible (first | refine a_ifF (by assumption) ?_ | refine a_ifT (by assumption) ?_)
    | (with_reducible refine wpAny_ite_false ?_ ?_; focus (first | kernel_rfl! | (simp; done)))
    | (with_reducible refine wpAny_ite_true ?_ ?_; focus (first | kernel_rfl! | (simp; done)))
    | (with_reducible refine a_collect (sl := sl) (ts := ts) ?_ hsl ?_; focus kernel_rfl)
    | with_reducible refine a_try ?_
    | ((fail_if_success (with_reducible first | show wpAny _ _ (PySem.getAttr? _ _) _ _ _ | show wpAny _ _ (PySem.classCode _ _ _ _ _ _) _ _ _ | show wpAny _ _ (PySem.builtinsFor _ _) _ _ _ | show wpAny _ _ (PySem.nsGet _ _) _ _ _ | show wpAny _ _ PySem.enterFrame _ _ _ | show wpAny _ _ (PySem.loadName _ _) _ _ _ | show wpAny _ _ (PySem.storeName _ _ _) _ _ _ | show wpAny _ _ (PySem.run _ _) _ _ _)); wp_delta)
    | with_reducible_and_instances refine wpAny_pure ?_
    | with_reducible_and_instances refine wpAny_bind ?_
    | with_reducible refine wpAny_runValue ?_)
  rw [eg, eb]
  have W₄ := B.wd W
  have m4 := W₄.m4.choose_spec
  refine wpAny_builtinsFor (bm := 4) W₄.g (ns_of W₄.k W₄.g rfl) (by decide) m4.1 m4.2.1 m4.2.2.1 m4.2.2.2 ?_
  clear m4
  repeat (first
    | with_reducible (first | refine wpAny_bind ?_ | refine wpAny_pure ?_ | refine wpAny_holding ?_ | refine wpAny_rule ?_ | refine wpAny_standAt ?_ | refine wpAny_point ?_ | refine wpAny_of_eq (by assumption) ?_ | refine wpAny_fresh' ?_)
    | (with_reducible refine a_load2 ?_; refine ⟨_, (by first | assumption | exact Mem.old (by assumption) _ _ (by assumption) rfl | exact Mem.at (by assumption) 0 _ _ rfl | exact Mem.at (by assumption) 1 _ _ rfl | exact Mem.at (by assumption) 2 _ _ rfl | exact Mem.at (by assumption) 3 _ _ rfl | exact Mem.at (by assumption) 4 _ _ rfl | exact Mem.at (by assumption) 5 _ _ rfl | exact Mem.at (by assumption) 6 _ _ rfl | exact Mem.at (by assumption) 7 _ _ rfl), ?_⟩)
    | (with_reducible refine a_loadPart2 ?_; refine ⟨_, (by first | assumption | exact Mem.old (by assumption) _ _ (by assumption) rfl | exact Mem.at (by assumption) 0 _ _ rfl | exact Mem.at (by assumption) 1 _ _ rfl | exact Mem.at (by assumption) 2 _ _ rfl | exact Mem.at (by assumption) 3 _ _ rfl | exact Mem.at (by assumption) 4 _ _ rfl | exact Mem.at (by assumption) 5 _ _ rfl | exact Mem.at (by assumption) 6 _ _ rfl | exact Mem.at (by assumption) 7 _ _ rfl), ?_⟩)
    | with_reducible (first | refine a_ifF (by assumption) ?_ | refine a_ifT (by assumption) ?_)
    | (with_reducible refine wpAny_ite_false ?_ ?_; focus (first | kernel_rfl! | (simp; done)))
    | (with_reducible refine wpAny_ite_true ?_ ?_; focus (first | kernel_rfl! | (simp; done)))
    | (with_reducible refine a_collect (sl := sl) (ts := ts) ?_ hsl ?_; focus kernel_rfl)
    | with_reducible refine a_try ?_
    | ((fail_if_success (with_reducible first | show wpAny _ _ (PySem.getAttr? _ _) _ _ _ | show wpAny _ _ (PySem.classCode _ _ _ _ _ _) _ _ _ | show wpAny _ _ (PySem.builtinsFor _ _) _ _ _ | show wpAny _ _ (PySem.nsGet _ _) _ _ _ | show wpAny _ _ PySem.enterFrame _ _ _ | show wpAny _ _ (PySem.loadName _ _) _ _ _ | show wpAny _ _ (PySem.storeName _ _ _) _ _ _ | show wpAny _ _ (PySem.run _ _) _ _ _)); wp_delta)
    | with_reducible_and_instances refine wpAny_pure ?_
    | with_reducible_and_instances refine wpAny_bind ?_
    | with_reducible refine wpAny_runValue ?_)
  refine wpAny_nsGet W₄.g ?_
  repeat (first
    | with_reducible (first | refine wpAny_bind ?_ | refine wpAny_pure ?_ | refine wpAny_holding ?_ | refine wpAny_rule ?_ | refine wpAny_standAt ?_ | refine wpAny_point ?_ | refine wpAny_of_eq (by assumption) ?_ | refine wpAny_fresh' ?_)
    | (with_reducible refine a_load2 ?_; refine ⟨_, (by first | assumption | exact Mem.old (by assumption) _ _ (by assumption) rfl | exact Mem.at (by assumption) 0 _ _ rfl | exact Mem.at (by assumption) 1 _ _ rfl | exact Mem.at (by assumption) 2 _ _ rfl | exact Mem.at (by assumption) 3 _ _ rfl | exact Mem.at (by assumption) 4 _ _ rfl | exact Mem.at (by assumption) 5 _ _ rfl | exact Mem.at (by assumption) 6 _ _ rfl | exact Mem.at (by assumption) 7 _ _ rfl), ?_⟩)
    | (with_reducible refine a_loadPart2 ?_; refine ⟨_, (by first | assumption | exact Mem.old (by assumption) _ _ (by assumption) rfl | exact Mem.at (by assumption) 0 _ _ rfl | exact Mem.at (by assumption) 1 _ _ rfl | exact Mem.at (by assumption) 2 _ _ rfl | exact Mem.at (by assumption) 3 _ _ rfl | exact Mem.at (by assumption) 4 _ _ rfl | exact Mem.at (by assumption) 5 _ _ rfl | exact Mem.at (by assumption) 6 _ _ rfl | exact Mem.at (by assumption) 7 _ _ rfl), ?_⟩)
    | with_reducible (first | refine a_ifF (by assumption) ?_ | refine a_ifT (by assumption) ?_)
    | (with_reducible refine wpAny_ite_false ?_ ?_; focus (first | kernel_rfl! | (simp; done)))
    | (with_reducible refine wpAny_ite_true ?_ ?_; focus (first | kernel_rfl! | (simp; done)))
    | (with_reducible refine a_collect (sl := sl) (ts := ts) ?_ hsl ?_; focus kernel_rfl)
    | with_reducible refine a_try ?_
    | ((fail_if_success (with_reducible first | show wpAny _ _ (PySem.getAttr? _ _) _ _ _ | show wpAny _ _ (PySem.classCode _ _ _ _ _ _) _ _ _ | show wpAny _ _ (PySem.builtinsFor _ _) _ _ _ | show wpAny _ _ (PySem.nsGet _ _) _ _ _ | show wpAny _ _ PySem.enterFrame _ _ _ | show wpAny _ _ (PySem.loadName _ _) _ _ _ | show wpAny _ _ (PySem.storeName _ _ _) _ _ _ | show wpAny _ _ (PySem.run _ _) _ _ _)); wp_delta)
    | with_reducible_and_instances refine wpAny_pure ?_
    | with_reducible_and_instances refine wpAny_bind ?_
    | with_reducible refine wpAny_runValue ?_)
  refine b_alloc B rfl ?_
  intro fr h₅ _ B₅
  replace B₅ := B₅.drop (fs' := [(bt, { cls := .type "tuple", data := .seq #[.type "object"] 0 })]) (fun p hp => List.mem_cons_of_mem _ hp)
  repeat (first
    | with_reducible (first | refine wpAny_bind ?_ | refine wpAny_pure ?_ | refine wpAny_holding ?_ | refine wpAny_rule ?_ | refine wpAny_standAt ?_ | refine wpAny_point ?_ | refine wpAny_of_eq (by assumption) ?_ | refine wpAny_fresh' ?_)
    | (with_reducible refine a_load2 ?_; refine ⟨_, (by first | assumption | exact Mem.old (by assumption) _ _ (by assumption) rfl | exact Mem.at (by assumption) 0 _ _ rfl | exact Mem.at (by assumption) 1 _ _ rfl | exact Mem.at (by assumption) 2 _ _ rfl | exact Mem.at (by assumption) 3 _ _ rfl | exact Mem.at (by assumption) 4 _ _ rfl | exact Mem.at (by assumption) 5 _ _ rfl | exact Mem.at (by assumption) 6 _ _ rfl | exact Mem.at (by assumption) 7 _ _ rfl), ?_⟩)
    | (with_reducible refine a_loadPart2 ?_; refine ⟨_, (by first | assumption | exact Mem.old (by assumption) _ _ (by assumption) rfl | exact Mem.at (by assumption) 0 _ _ rfl | exact Mem.at (by assumption) 1 _ _ rfl | exact Mem.at (by assumption) 2 _ _ rfl | exact Mem.at (by assumption) 3 _ _ rfl | exact Mem.at (by assumption) 4 _ _ rfl | exact Mem.at (by assumption) 5 _ _ rfl | exact Mem.at (by assumption) 6 _ _ rfl | exact Mem.at (by assumption) 7 _ _ rfl), ?_⟩)
    | with_reducible (first | refine a_ifF (by assumption) ?_ | refine a_ifT (by assumption) ?_)
    | (with_reducible refine wpAny_ite_false ?_ ?_; focus (first | kernel_rfl! | (simp; done)))
    | (with_reducible refine wpAny_ite_true ?_ ?_; focus (first | kernel_rfl! | (simp; done)))
    | (with_reducible refine a_collect (sl := sl) (ts := ts) ?_ hsl ?_; focus kernel_rfl)
    | with_reducible refine a_try ?_
    | ((fail_if_success (with_reducible first | show wpAny _ _ (PySem.getAttr? _ _) _ _ _ | show wpAny _ _ (PySem.classCode _ _ _ _ _ _) _ _ _ | show wpAny _ _ (PySem.builtinsFor _ _) _ _ _ | show wpAny _ _ (PySem.nsGet _ _) _ _ _ | show wpAny _ _ PySem.enterFrame _ _ _ | show wpAny _ _ (PySem.loadName _ _) _ _ _ | show wpAny _ _ (PySem.storeName _ _ _) _ _ _ | show wpAny _ _ (PySem.run _ _) _ _ _)); wp_delta)
    | with_reducible_and_instances refine wpAny_pure ?_
    | with_reducible_and_instances refine wpAny_bind ?_
    | with_reducible refine wpAny_runValue ?_)
  refine wpAny_enterFrame (B₅.wd W).lim (by have := R.d; show A.depth < 1000; omega) ?_
  repeat (first
    | with_reducible (first | refine wpAny_bind ?_ | refine wpAny_pure ?_ | refine wpAny_holding ?_ | refine wpAny_rule ?_ | refine wpAny_standAt ?_ | refine wpAny_point ?_ | refine wpAny_of_eq (by assumption) ?_ | refine wpAny_fresh' ?_)
    | (with_reducible refine a_load2 ?_; refine ⟨_, (by first | assumption | exact Mem.old (by assumption) _ _ (by assumption) rfl | exact Mem.at (by assumption) 0 _ _ rfl | exact Mem.at (by assumption) 1 _ _ rfl | exact Mem.at (by assumption) 2 _ _ rfl | exact Mem.at (by assumption) 3 _ _ rfl | exact Mem.at (by assumption) 4 _ _ rfl | exact Mem.at (by assumption) 5 _ _ rfl | exact Mem.at (by assumption) 6 _ _ rfl | exact Mem.at (by assumption) 7 _ _ rfl), ?_⟩)
    | (with_reducible refine a_loadPart2 ?_; refine ⟨_, (by first | assumption | exact Mem.old (by assumption) _ _ (by assumption) rfl | exact Mem.at (by assumption) 0 _ _ rfl | exact Mem.at (by assumption) 1 _ _ rfl | exact Mem.at (by assumption) 2 _ _ rfl | exact Mem.at (by assumption) 3 _ _ rfl | exact Mem.at (by assumption) 4 _ _ rfl | exact Mem.at (by assumption) 5 _ _ rfl | exact Mem.at (by assumption) 6 _ _ rfl | exact Mem.at (by assumption) 7 _ _ rfl), ?_⟩)
    | with_reducible (first | refine a_ifF (by assumption) ?_ | refine a_ifT (by assumption) ?_)
    | (with_reducible refine wpAny_ite_false ?_ ?_; focus (first | kernel_rfl! | (simp; done)))
    | (with_reducible refine wpAny_ite_true ?_ ?_; focus (first | kernel_rfl! | (simp; done)))
    | (with_reducible refine a_collect (sl := sl) (ts := ts) ?_ hsl ?_; focus kernel_rfl)
    | with_reducible refine a_try ?_
    | ((fail_if_success (with_reducible first | show wpAny _ _ (PySem.getAttr? _ _) _ _ _ | show wpAny _ _ (PySem.classCode _ _ _ _ _ _) _ _ _ | show wpAny _ _ (PySem.builtinsFor _ _) _ _ _ | show wpAny _ _ (PySem.nsGet _ _) _ _ _ | show wpAny _ _ PySem.enterFrame _ _ _ | show wpAny _ _ (PySem.loadName _ _) _ _ _ | show wpAny _ _ (PySem.storeName _ _ _) _ _ _ | show wpAny _ _ (PySem.run _ _) _ _ _)); wp_delta)
    | with_reducible_and_instances refine wpAny_pure ?_
    | with_reducible_and_instances refine wpAny_bind ?_
    | with_reducible refine wpAny_runValue ?_)
  refine wpAny_onRaise ?_
  repeat (first
    | with_reducible (first | refine wpAny_bind ?_ | refine wpAny_pure ?_ | refine wpAny_holding ?_ | refine wpAny_rule ?_ | refine wpAny_standAt ?_ | refine wpAny_point ?_ | refine wpAny_of_eq (by assumption) ?_ | refine wpAny_fresh' ?_)
    | (with_reducible refine a_load2 ?_; refine ⟨_, (by first | assumption | exact Mem.old (by assumption) _ _ (by assumption) rfl | exact Mem.at (by assumption) 0 _ _ rfl | exact Mem.at (by assumption) 1 _ _ rfl | exact Mem.at (by assumption) 2 _ _ rfl | exact Mem.at (by assumption) 3 _ _ rfl | exact Mem.at (by assumption) 4 _ _ rfl | exact Mem.at (by assumption) 5 _ _ rfl | exact Mem.at (by assumption) 6 _ _ rfl | exact Mem.at (by assumption) 7 _ _ rfl), ?_⟩)
    | (with_reducible refine a_loadPart2 ?_; refine ⟨_, (by first | assumption | exact Mem.old (by assumption) _ _ (by assumption) rfl | exact Mem.at (by assumption) 0 _ _ rfl | exact Mem.at (by assumption) 1 _ _ rfl | exact Mem.at (by assumption) 2 _ _ rfl | exact Mem.at (by assumption) 3 _ _ rfl | exact Mem.at (by assumption) 4 _ _ rfl | exact Mem.at (by assumption) 5 _ _ rfl | exact Mem.at (by assumption) 6 _ _ rfl | exact Mem.at (by assumption) 7 _ _ rfl), ?_⟩)
    | with_reducible (first | refine a_ifF (by assumption) ?_ | refine a_ifT (by assumption) ?_)
    | (with_reducible refine wpAny_ite_false ?_ ?_; focus (first | kernel_rfl! | (simp; done)))
    | (with_reducible refine wpAny_ite_true ?_ ?_; focus (first | kernel_rfl! | (simp; done)))
    | (with_reducible refine a_collect (sl := sl) (ts := ts) ?_ hsl ?_; focus kernel_rfl)
    | with_reducible refine a_try ?_
    | ((fail_if_success (with_reducible first | show wpAny _ _ (PySem.getAttr? _ _) _ _ _ | show wpAny _ _ (PySem.classCode _ _ _ _ _ _) _ _ _ | show wpAny _ _ (PySem.builtinsFor _ _) _ _ _ | show wpAny _ _ (PySem.nsGet _ _) _ _ _ | show wpAny _ _ PySem.enterFrame _ _ _ | show wpAny _ _ (PySem.loadName _ _) _ _ _ | show wpAny _ _ (PySem.storeName _ _ _) _ _ _ | show wpAny _ _ (PySem.run _ _) _ _ _)); wp_delta)
    | with_reducible_and_instances refine wpAny_pure ?_
    | with_reducible_and_instances refine wpAny_bind ?_
    | with_reducible refine wpAny_runValue ?_)
  obtain ⟨cenv, hce⟩ : ∃ x, x = ({ scope := scope, locals := ns, globals := mainGlobals, cells := (Option.map (fun x => (("__class__" : Str), x)) (none : Option Addr)).toList ++ (Option.map (fun x => (("__classdict__" : Str), x)) (none : Option Addr)).toList ++ [(("mycmp" : Str), cm)], qual := qK ++ ".", code := .ref c, frame := some fr, builtins := builtinsNs } : Env) := ⟨_, rfl⟩
  rw [← hce]
  have cL : cenv.locals = ns := by rw [hce]
  have cs : cenv.scope = scope := by rw [hce]
  have cg : cenv.globals = mainGlobals := by rw [hce]
  have cq : cenv.qual = qK ++ "." := by rw [hce]
  have cc : cenv.code = .ref c := by rw [hce]
  have cm' : cenv.cells.lookup ("mycmp" : Str) = some cm := by rw [hce]; rfl
  have ck : cenv.scope.kind = .class := by rw [cs, skind]
  clear hce
  have st1 : ∀ x v, x ∈ (["__module__", "__slots__", "__init__", "__lt__", "__gt__", "__eq__", "__le__", "__ge__", "__hash__"] : List Str) → storeName cenv x v = localSet cenv x v := fun x v hx => store_local (by rw [cs]; exact skind) (by rw [cs]; exact sl x hx)
  have st2 : ∀ x v, x ∈ (["__qualname__", "__firstlineno__", "__static_attributes__"] : List Str) → storeName cenv x v = localSet cenv x v := fun x v hx => store_own (by rw [cs]; exact skind) (by rw [cs]; exact sn x (List.mem_cons_of_mem _ hx)) (by revert hx; revert x; decide)
  refine c_name (v := .str "law_oy0026_01" 264) B₅ (B₅.wd W) cL ck cg (by rw [cs]; exact sn _ (.head _)) (by kernel_rfl!) (ns_of (B₅.wd W).k (B₅.wd W).g rfl) ?_
  repeat (first
    | with_reducible (first | refine wpAny_bind ?_ | refine wpAny_pure ?_ | refine wpAny_holding ?_ | refine wpAny_rule ?_ | refine wpAny_standAt ?_ | refine wpAny_point ?_ | refine wpAny_of_eq (by assumption) ?_ | refine wpAny_fresh' ?_)
    | (with_reducible refine a_load2 ?_; refine ⟨_, (by first | assumption | exact Mem.old (by assumption) _ _ (by assumption) rfl | exact Mem.at (by assumption) 0 _ _ rfl | exact Mem.at (by assumption) 1 _ _ rfl | exact Mem.at (by assumption) 2 _ _ rfl | exact Mem.at (by assumption) 3 _ _ rfl | exact Mem.at (by assumption) 4 _ _ rfl | exact Mem.at (by assumption) 5 _ _ rfl | exact Mem.at (by assumption) 6 _ _ rfl | exact Mem.at (by assumption) 7 _ _ rfl), ?_⟩)
    | (with_reducible refine a_loadPart2 ?_; refine ⟨_, (by first | assumption | exact Mem.old (by assumption) _ _ (by assumption) rfl | exact Mem.at (by assumption) 0 _ _ rfl | exact Mem.at (by assumption) 1 _ _ rfl | exact Mem.at (by assumption) 2 _ _ rfl | exact Mem.at (by assumption) 3 _ _ rfl | exact Mem.at (by assumption) 4 _ _ rfl | exact Mem.at (by assumption) 5 _ _ rfl | exact Mem.at (by assumption) 6 _ _ rfl | exact Mem.at (by assumption) 7 _ _ rfl), ?_⟩)
    | with_reducible (first | refine a_ifF (by assumption) ?_ | refine a_ifT (by assumption) ?_)
    | (with_reducible refine wpAny_ite_false ?_ ?_; focus (first | kernel_rfl! | (simp; done)))
    | (with_reducible refine wpAny_ite_true ?_ ?_; focus (first | kernel_rfl! | (simp; done)))
    | (with_reducible refine a_collect (sl := sl) (ts := ts) ?_ hsl ?_; focus kernel_rfl)
    | with_reducible refine a_try ?_
    | ((fail_if_success (with_reducible first | show wpAny _ _ (PySem.getAttr? _ _) _ _ _ | show wpAny _ _ (PySem.classCode _ _ _ _ _ _) _ _ _ | show wpAny _ _ (PySem.builtinsFor _ _) _ _ _ | show wpAny _ _ (PySem.nsGet _ _) _ _ _ | show wpAny _ _ PySem.enterFrame _ _ _ | show wpAny _ _ (PySem.loadName _ _) _ _ _ | show wpAny _ _ (PySem.storeName _ _ _) _ _ _ | show wpAny _ _ (PySem.run _ _) _ _ _)); wp_delta)
    | with_reducible_and_instances refine wpAny_pure ?_
    | with_reducible_and_instances refine wpAny_bind ?_
    | with_reducible refine wpAny_runValue ?_)
  refine c_store (x := "__module__") B₅ cL (st1 _ _ (by decide)) (fun hv tk vv => #[DE hv "__module__" tk vv]) 1 (by kernel_rfl!) (fun hv tk vv => by kernel_rfl!) ?_
  intro e0 t0 v0 g0 u0 hv0 S0
  clear B₅
  obtain ⟨t0', rfl⟩ : ∃ tk, v0 = .str "law_oy0026_01" tk := ⟨_, hv0⟩
  clear hv0
  repeat (first
    | with_reducible (first | refine wpAny_bind ?_ | refine wpAny_pure ?_ | refine wpAny_holding ?_ | refine wpAny_rule ?_ | refine wpAny_standAt ?_ | refine wpAny_point ?_ | refine wpAny_of_eq (by assumption) ?_ | refine wpAny_fresh' ?_)
    | (with_reducible refine a_load2 ?_; refine ⟨_, (by first | assumption | exact Mem.old (by assumption) _ _ (by assumption) rfl | exact Mem.at (by assumption) 0 _ _ rfl | exact Mem.at (by assumption) 1 _ _ rfl | exact Mem.at (by assumption) 2 _ _ rfl | exact Mem.at (by assumption) 3 _ _ rfl | exact Mem.at (by assumption) 4 _ _ rfl | exact Mem.at (by assumption) 5 _ _ rfl | exact Mem.at (by assumption) 6 _ _ rfl | exact Mem.at (by assumption) 7 _ _ rfl), ?_⟩)
    | (with_reducible refine a_loadPart2 ?_; refine ⟨_, (by first | assumption | exact Mem.old (by assumption) _ _ (by assumption) rfl | exact Mem.at (by assumption) 0 _ _ rfl | exact Mem.at (by assumption) 1 _ _ rfl | exact Mem.at (by assumption) 2 _ _ rfl | exact Mem.at (by assumption) 3 _ _ rfl | exact Mem.at (by assumption) 4 _ _ rfl | exact Mem.at (by assumption) 5 _ _ rfl | exact Mem.at (by assumption) 6 _ _ rfl | exact Mem.at (by assumption) 7 _ _ rfl), ?_⟩)
    | with_reducible (first | refine a_ifF (by assumption) ?_ | refine a_ifT (by assumption) ?_)
    | (with_reducible refine wpAny_ite_false ?_ ?_; focus (first | kernel_rfl! | (simp; done)))
    | (with_reducible refine wpAny_ite_true ?_ ?_; focus (first | kernel_rfl! | (simp; done)))
    | (with_reducible refine a_collect (sl := sl) (ts := ts) ?_ hsl ?_; focus kernel_rfl)
    | with_reducible refine a_try ?_
    | ((fail_if_success (with_reducible first | show wpAny _ _ (PySem.getAttr? _ _) _ _ _ | show wpAny _ _ (PySem.classCode _ _ _ _ _ _) _ _ _ | show wpAny _ _ (PySem.builtinsFor _ _) _ _ _ | show wpAny _ _ (PySem.nsGet _ _) _ _ _ | show wpAny _ _ PySem.enterFrame _ _ _ | show wpAny _ _ (PySem.loadName _ _) _ _ _ | show wpAny _ _ (PySem.storeName _ _ _) _ _ _ | show wpAny _ _ (PySem.run _ _) _ _ _)); wp_delta)
    | with_reducible_and_instances refine wpAny_pure ?_
    | with_reducible_and_instances refine wpAny_bind ?_
    | with_reducible refine wpAny_runValue ?_)
  refine c_store (x := "__qualname__") S0 cL (st2 _ _ (by decide)) (fun hv tk vv => #[DE e0 "__module__" t0 (.str "law_oy0026_01" t0'), DE hv "__qualname__" tk vv]) 2 (by kernel_rfl!) (fun hv tk vv => by kernel_rfl!) ?_
  intro e1 t1 v1 g1 u1 hv1 S1
  clear S0
  obtain ⟨t1', rfl⟩ : ∃ tk, v1 = .str qK tk := ⟨_, hv1⟩
  clear hv1
  repeat (first
    | with_reducible (first | refine wpAny_bind ?_ | refine wpAny_pure ?_ | refine wpAny_holding ?_ | refine wpAny_rule ?_ | refine wpAny_standAt ?_ | refine wpAny_point ?_ | refine wpAny_of_eq (by assumption) ?_ | refine wpAny_fresh' ?_)
    | (with_reducible refine a_load2 ?_; refine ⟨_, (by first | assumption | exact Mem.old (by assumption) _ _ (by assumption) rfl | exact Mem.at (by assumption) 0 _ _ rfl | exact Mem.at (by assumption) 1 _ _ rfl | exact Mem.at (by assumption) 2 _ _ rfl | exact Mem.at (by assumption) 3 _ _ rfl | exact Mem.at (by assumption) 4 _ _ rfl | exact Mem.at (by assumption) 5 _ _ rfl | exact Mem.at (by assumption) 6 _ _ rfl | exact Mem.at (by assumption) 7 _ _ rfl), ?_⟩)
    | (with_reducible refine a_loadPart2 ?_; refine ⟨_, (by first | assumption | exact Mem.old (by assumption) _ _ (by assumption) rfl | exact Mem.at (by assumption) 0 _ _ rfl | exact Mem.at (by assumption) 1 _ _ rfl | exact Mem.at (by assumption) 2 _ _ rfl | exact Mem.at (by assumption) 3 _ _ rfl | exact Mem.at (by assumption) 4 _ _ rfl | exact Mem.at (by assumption) 5 _ _ rfl | exact Mem.at (by assumption) 6 _ _ rfl | exact Mem.at (by assumption) 7 _ _ rfl), ?_⟩)
    | with_reducible (first | refine a_ifF (by assumption) ?_ | refine a_ifT (by assumption) ?_)
    | (with_reducible refine wpAny_ite_false ?_ ?_; focus (first | kernel_rfl! | (simp; done)))
    | (with_reducible refine wpAny_ite_true ?_ ?_; focus (first | kernel_rfl! | (simp; done)))
    | (with_reducible refine a_collect (sl := sl) (ts := ts) ?_ hsl ?_; focus kernel_rfl)
    | with_reducible refine a_try ?_
    | ((fail_if_success (with_reducible first | show wpAny _ _ (PySem.getAttr? _ _) _ _ _ | show wpAny _ _ (PySem.classCode _ _ _ _ _ _) _ _ _ | show wpAny _ _ (PySem.builtinsFor _ _) _ _ _ | show wpAny _ _ (PySem.nsGet _ _) _ _ _ | show wpAny _ _ PySem.enterFrame _ _ _ | show wpAny _ _ (PySem.loadName _ _) _ _ _ | show wpAny _ _ (PySem.storeName _ _ _) _ _ _ | show wpAny _ _ (PySem.run _ _) _ _ _)); wp_delta)
    | with_reducible_and_instances refine wpAny_pure ?_
    | with_reducible_and_instances refine wpAny_bind ?_
    | with_reducible refine wpAny_runValue ?_)
  refine c_store (x := "__firstlineno__") S1 cL (st2 _ _ (by decide)) (fun hv tk vv => #[DE e0 "__module__" t0 (.str "law_oy0026_01" t0'), DE e1 "__qualname__" t1 (.str qK t1'), DE hv "__firstlineno__" tk vv]) 3 (by kernel_rfl!) (fun hv tk vv => by kernel_rfl!) ?_
  intro e2 t2 v2 g2 u2 hv2 S2
  clear S1
  obtain ⟨t2', rfl⟩ : ∃ tk, v2 = .int 18 tk := ⟨_, hv2⟩
  clear hv2
  repeat (first
    | with_reducible (first | refine wpAny_bind ?_ | refine wpAny_pure ?_ | refine wpAny_holding ?_ | refine wpAny_rule ?_ | refine wpAny_standAt ?_ | refine wpAny_point ?_ | refine wpAny_of_eq (by assumption) ?_ | refine wpAny_fresh' ?_)
    | (with_reducible refine a_load2 ?_; refine ⟨_, (by first | assumption | exact Mem.old (by assumption) _ _ (by assumption) rfl | exact Mem.at (by assumption) 0 _ _ rfl | exact Mem.at (by assumption) 1 _ _ rfl | exact Mem.at (by assumption) 2 _ _ rfl | exact Mem.at (by assumption) 3 _ _ rfl | exact Mem.at (by assumption) 4 _ _ rfl | exact Mem.at (by assumption) 5 _ _ rfl | exact Mem.at (by assumption) 6 _ _ rfl | exact Mem.at (by assumption) 7 _ _ rfl), ?_⟩)
    | (with_reducible refine a_loadPart2 ?_; refine ⟨_, (by first | assumption | exact Mem.old (by assumption) _ _ (by assumption) rfl | exact Mem.at (by assumption) 0 _ _ rfl | exact Mem.at (by assumption) 1 _ _ rfl | exact Mem.at (by assumption) 2 _ _ rfl | exact Mem.at (by assumption) 3 _ _ rfl | exact Mem.at (by assumption) 4 _ _ rfl | exact Mem.at (by assumption) 5 _ _ rfl | exact Mem.at (by assumption) 6 _ _ rfl | exact Mem.at (by assumption) 7 _ _ rfl), ?_⟩)
    | with_reducible (first | refine a_ifF (by assumption) ?_ | refine a_ifT (by assumption) ?_)
    | (with_reducible refine wpAny_ite_false ?_ ?_; focus (first | kernel_rfl! | (simp; done)))
    | (with_reducible refine wpAny_ite_true ?_ ?_; focus (first | kernel_rfl! | (simp; done)))
    | (with_reducible refine a_collect (sl := sl) (ts := ts) ?_ hsl ?_; focus kernel_rfl)
    | with_reducible refine a_try ?_
    | ((fail_if_success (with_reducible first | show wpAny _ _ (PySem.getAttr? _ _) _ _ _ | show wpAny _ _ (PySem.classCode _ _ _ _ _ _) _ _ _ | show wpAny _ _ (PySem.builtinsFor _ _) _ _ _ | show wpAny _ _ (PySem.nsGet _ _) _ _ _ | show wpAny _ _ PySem.enterFrame _ _ _ | show wpAny _ _ (PySem.loadName _ _) _ _ _ | show wpAny _ _ (PySem.storeName _ _ _) _ _ _ | show wpAny _ _ (PySem.run _ _) _ _ _)); wp_delta)
    | with_reducible_and_instances refine wpAny_pure ?_
    | with_reducible_and_instances refine wpAny_bind ?_
    | with_reducible refine wpAny_runValue ?_)
  refine wpAny_run (codeAny_body (by rw [hbd']; rfl) (by rw [hbd]; rfl) ?_)
  refine wp_gen2 fun Qx Ex hQx => ?_
  rw [hbd]
  refine wpAny_execs_cons (wpAny_Assign_Name (wpAny_Constant_str ?_))
  refine c_store (x := "__module__") S2 cL (st1 _ _ (by decide)) (fun hv tk vv => #[DE e0 "__module__" t0 vv, DE e1 "__qualname__" t1 (.str qK t1'), DE e2 "__firstlineno__" t2 (.int 18 t2')]) 3 (by kernel_rfl!) (fun hv tk vv => by kernel_rfl!) ?_
  intro _ _ v3 g3 u3 hv3 S3
  clear S2
  obtain ⟨t3', rfl⟩ : ∃ tk, v3 = .str "cpy313.functools" tk := ⟨_, hv3⟩
  clear hv3
  dsimp only
  refine wpAny_execs_cons (wpAny_Assign_Name (wpAny_List (wpAny_items_cons (wpAny_Constant_str (wpAny_items_nil ⟨by show 1 ≤ sizeLine; decide, ?_⟩)))))
  have Bs := S3.grow (gs := [(g3.objs.size, lst [.str "obj" u3] 0)]) (Gr.push _ _ (lst [.str "obj" u3] 0)) (fun p hp => by rw [List.mem_singleton.mp hp]; exact Heap.get?_push_size _ rfl) (fun p hp => by rw [List.mem_singleton.mp hp]; exact size_none _)
  clear S3
  dsimp only
  generalize hsl : g3.objs.size = sl_ at *
  generalize g3.push (lst [.str "obj" u3] 0) = gs_ at *
  refine c_store (x := "__slots__") Bs cL (st1 _ _ (by decide)) (fun hv tk vv => #[DE e0 "__module__" t0 (.str "cpy313.functools" t3'), DE e1 "__qualname__" t1 (.str qK t1'), DE e2 "__firstlineno__" t2 (.int 18 t2'), DE hv "__slots__" tk vv]) 4 (by kernel_rfl!) (fun hv tk vv => by kernel_rfl!) ?_
  intro e4 t4 v4 g4 u4 hv4 S4
  clear Bs
  subst hv4
  try dsimp only
  have qn : ∀ x ∈ (["__module__", "__slots__", "__init__", "__lt__", "__gt__", "__eq__", "__le__", "__ge__", "__hash__"] : List Str), qualnameIn cenv x x = qK ++ "." ++ x := fun x hx => by
    unfold qualnameIn
    rw [show cenv.kindOf x = some .local from by unfold Env.kindOf; rw [cs]; exact sl x hx, cq]; rfl
  rw [hr0]
  refine wpAny_execs_cons (nestDef_K (hargs a0 (by simp)).1 (hargs a0 (by simp)).2.1 ((hargs a0 (by simp)).2.2 _) ?_)
  rw [qn "__init__" (by decide), show (qK ++ "." ++ "__init__" : Str) = "cmp_to_key.<locals>.K.__init__" from by decide +kernel]
  refine def_make (k := ((⟨22, 8, 23, 26⟩ : Pos), ("cmp_to_key.<locals>.K.__init__" : Str))) (S4.wd W) S4.cls.tab (by decide +kernel) (keys6_apart _ (by decide +kernel)) S4.sub S4.cls.hd ⟨S4.cls.n1, S4.cls.n2⟩ (hcl0 _) cg cc ?_
  intro f0 _ _ cf0 oc0 doc0 pm0 ctv0 G_ G'_ nf_ hf_ T_ hcf_ hco0 hcP_
  obtain ⟨M0, hM0, hf_⟩ := some_gen hf_
  have Bd0 := S4.def (k := ((⟨22, 8, 23, 26⟩ : Pos), ("cmp_to_key.<locals>.K.__init__" : Str))) (by decide +kernel) G_ G'_ nf_ hf_ T_ hcf_ hco0 hcP_
  clear S4 G_ G'_ nf_ hf_ T_ hcf_ hcP_
  refine c_store (x := "__init__") Bd0 cL (st1 _ _ (by decide)) (fun hv tk vv => #[DE e0 "__module__" t0 (.str "cpy313.functools" t3'), DE e1 "__qualname__" t1 (.str qK t1'), DE e2 "__firstlineno__" t2 (.int 18 t2'), DE e4 "__slots__" t4 (.ref sl_), DE hv "__init__" tk vv]) 5 (by kernel_rfl!) (fun hv tk vv => by kernel_rfl!) ?_
  intro e5 t5 v5 g5 u5 hv5 S5
  clear Bd0
  subst hv5
  try dsimp only
  rw [hr1]
  refine wpAny_execs_cons (nestDef_K (hargs a1 (by simp)).1 (hargs a1 (by simp)).2.1 ((hargs a1 (by simp)).2.2 _) ?_)
  rw [qn "__lt__" (by decide), show (qK ++ "." ++ "__lt__" : Str) = "cmp_to_key.<locals>.K.__lt__" from by decide +kernel]
  refine def_make (k := ((⟨25, 8, 26, 49⟩ : Pos), ("cmp_to_key.<locals>.K.__lt__" : Str))) (S5.wd W) S5.cls.tab (by decide +kernel) (keys6_apart _ (by decide +kernel)) S5.sub S5.cls.hd ⟨S5.cls.n1, S5.cls.n2⟩ (hcl s1 (by simp) _ cm') cg cc ?_
  intro f1 _ _ cf1 oc1 doc1 pm1 ctv1 G_ G'_ nf_ hf_ T_ hcf_ hco1 hcP_
  obtain ⟨M1, hM1, hf_⟩ := some_gen hf_
  have Bd1 := S5.def (k := ((⟨25, 8, 26, 49⟩ : Pos), ("cmp_to_key.<locals>.K.__lt__" : Str))) (by decide +kernel) G_ G'_ nf_ hf_ T_ hcf_ hco1 hcP_
  clear S5 G_ G'_ nf_ hf_ T_ hcf_ hcP_
  refine c_store (x := "__lt__") Bd1 cL (st1 _ _ (by decide)) (fun hv tk vv => #[DE e0 "__module__" t0 (.str "cpy313.functools" t3'), DE e1 "__qualname__" t1 (.str qK t1'), DE e2 "__firstlineno__" t2 (.int 18 t2'), DE e4 "__slots__" t4 (.ref sl_), DE e5 "__init__" t5 (.ref f0), DE hv "__lt__" tk vv]) 6 (by kernel_rfl!) (fun hv tk vv => by kernel_rfl!) ?_
  intro e6 t6 v6 g6 u6 hv6 S6
  clear Bd1
  subst hv6
  try dsimp only
  rw [hr2]
  refine wpAny_execs_cons (nestDef_K (hargs a2 (by simp)).1 (hargs a2 (by simp)).2.1 ((hargs a2 (by simp)).2.2 _) ?_)
  rw [qn "__gt__" (by decide), show (qK ++ "." ++ "__gt__" : Str) = "cmp_to_key.<locals>.K.__gt__" from by decide +kernel]
  refine def_make (k := ((⟨28, 8, 29, 49⟩ : Pos), ("cmp_to_key.<locals>.K.__gt__" : Str))) (S6.wd W) S6.cls.tab (by decide +kernel) (keys6_apart _ (by decide +kernel)) S6.sub S6.cls.hd ⟨S6.cls.n1, S6.cls.n2⟩ (hcl s2 (by simp) _ cm') cg cc ?_
  intro f2 _ _ cf2 oc2 doc2 pm2 ctv2 G_ G'_ nf_ hf_ T_ hcf_ hco2 hcP_
  obtain ⟨M2, hM2, hf_⟩ := some_gen hf_
  have Bd2 := S6.def (k := ((⟨28, 8, 29, 49⟩ : Pos), ("cmp_to_key.<locals>.K.__gt__" : Str))) (by decide +kernel) G_ G'_ nf_ hf_ T_ hcf_ hco2 hcP_
  clear S6 G_ G'_ nf_ hf_ T_ hcf_ hcP_
  refine c_store (x := "__gt__") Bd2 cL (st1 _ _ (by decide)) (fun hv tk vv => #[DE e0 "__module__" t0 (.str "cpy313.functools" t3'), DE e1 "__qualname__" t1 (.str qK t1'), DE e2 "__firstlineno__" t2 (.int 18 t2'), DE e4 "__slots__" t4 (.ref sl_), DE e5 "__init__" t5 (.ref f0), DE e6 "__lt__" t6 (.ref f1), DE hv "__gt__" tk vv]) 7 (by kernel_rfl!) (fun hv tk vv => by kernel_rfl!) ?_
  intro e7 t7 v7 g7 u7 hv7 S7
  clear Bd2
  subst hv7
  try dsimp only
  rw [hr3]
  refine wpAny_execs_cons (nestDef_K (hargs a3 (by simp)).1 (hargs a3 (by simp)).2.1 ((hargs a3 (by simp)).2.2 _) ?_)
  rw [qn "__eq__" (by decide), show (qK ++ "." ++ "__eq__" : Str) = "cmp_to_key.<locals>.K.__eq__" from by decide +kernel]
  refine def_make (k := ((⟨31, 8, 32, 50⟩ : Pos), ("cmp_to_key.<locals>.K.__eq__" : Str))) (S7.wd W) S7.cls.tab (by decide +kernel) (keys6_apart _ (by decide +kernel)) S7.sub S7.cls.hd ⟨S7.cls.n1, S7.cls.n2⟩ (hcl s3 (by simp) _ cm') cg cc ?_
  intro f3 _ _ cf3 oc3 doc3 pm3 ctv3 G_ G'_ nf_ hf_ T_ hcf_ hco3 hcP_
  obtain ⟨M3, hM3, hf_⟩ := some_gen hf_
  have Bd3 := S7.def (k := ((⟨31, 8, 32, 50⟩ : Pos), ("cmp_to_key.<locals>.K.__eq__" : Str))) (by decide +kernel) G_ G'_ nf_ hf_ T_ hcf_ hco3 hcP_
  clear S7 G_ G'_ nf_ hf_ T_ hcf_ hcP_
  refine c_store (x := "__eq__") Bd3 cL (st1 _ _ (by decide)) (fun hv tk vv => #[DE e0 "__module__" t0 (.str "cpy313.functools" t3'), DE e1 "__qualname__" t1 (.str qK t1'), DE e2 "__firstlineno__" t2 (.int 18 t2'), DE e4 "__slots__" t4 (.ref sl_), DE e5 "__init__" t5 (.ref f0), DE e6 "__lt__" t6 (.ref f1), DE e7 "__gt__" t7 (.ref f2), DE hv "__eq__" tk vv]) 8 (by kernel_rfl!) (fun hv tk vv => by kernel_rfl!) ?_
  intro e8 t8 v8 g8 u8 hv8 S8
  clear Bd3
  subst hv8
  try dsimp only
  rw [hr4]
  refine wpAny_execs_cons (nestDef_K (hargs a4 (by simp)).1 (hargs a4 (by simp)).2.1 ((hargs a4 (by simp)).2.2 _) ?_)
  rw [qn "__le__" (by decide), show (qK ++ "." ++ "__le__" : Str) = "cmp_to_key.<locals>.K.__le__" from by decide +kernel]
  refine def_make (k := ((⟨34, 8, 35, 50⟩ : Pos), ("cmp_to_key.<locals>.K.__le__" : Str))) (S8.wd W) S8.cls.tab (by decide +kernel) (keys6_apart _ (by decide +kernel)) S8.sub S8.cls.hd ⟨S8.cls.n1, S8.cls.n2⟩ (hcl s4 (by simp) _ cm') cg cc ?_
  intro f4 _ _ cf4 oc4 doc4 pm4 ctv4 G_ G'_ nf_ hf_ T_ hcf_ hco4 hcP_
  obtain ⟨M4, hM4, hf_⟩ := some_gen hf_
  have Bd4 := S8.def (k := ((⟨34, 8, 35, 50⟩ : Pos), ("cmp_to_key.<locals>.K.__le__" : Str))) (by decide +kernel) G_ G'_ nf_ hf_ T_ hcf_ hco4 hcP_
  clear S8 G_ G'_ nf_ hf_ T_ hcf_ hcP_
  refine c_store (x := "__le__") Bd4 cL (st1 _ _ (by decide)) (fun hv tk vv => #[DE e0 "__module__" t0 (.str "cpy313.functools" t3'), DE e1 "__qualname__" t1 (.str qK t1'), DE e2 "__firstlineno__" t2 (.int 18 t2'), DE e4 "__slots__" t4 (.ref sl_), DE e5 "__init__" t5 (.ref f0), DE e6 "__lt__" t6 (.ref f1), DE e7 "__gt__" t7 (.ref f2), DE e8 "__eq__" t8 (.ref f3), DE hv "__le__" tk vv]) 9 (by kernel_rfl!) (fun hv tk vv => by kernel_rfl!) ?_
  intro e9 t9 v9 g9 u9 hv9 S9
  clear Bd4
  subst hv9
  try dsimp only
  rw [hr5]
  refine wpAny_execs_cons (nestDef_K (hargs a5 (by simp)).1 (hargs a5 (by simp)).2.1 ((hargs a5 (by simp)).2.2 _) ?_)
  rw [qn "__ge__" (by decide), show (qK ++ "." ++ "__ge__" : Str) = "cmp_to_key.<locals>.K.__ge__" from by decide +kernel]
  refine def_make (k := ((⟨37, 8, 38, 50⟩ : Pos), ("cmp_to_key.<locals>.K.__ge__" : Str))) (S9.wd W) S9.cls.tab (by decide +kernel) (keys6_apart _ (by decide +kernel)) S9.sub S9.cls.hd ⟨S9.cls.n1, S9.cls.n2⟩ (hcl s5 (by simp) _ cm') cg cc ?_
  intro f5 _ _ cf5 oc5 doc5 pm5 ctv5 G_ G'_ nf_ hf_ T_ hcf_ hco5 hcP_
  obtain ⟨M5, hM5, hf_⟩ := some_gen hf_
  have Bd5 := S9.def (k := ((⟨37, 8, 38, 50⟩ : Pos), ("cmp_to_key.<locals>.K.__ge__" : Str))) (by decide +kernel) G_ G'_ nf_ hf_ T_ hcf_ hco5 hcP_
  clear S9 G_ G'_ nf_ hf_ T_ hcf_ hcP_
  refine c_store (x := "__ge__") Bd5 cL (st1 _ _ (by decide)) (fun hv tk vv => #[DE e0 "__module__" t0 (.str "cpy313.functools" t3'), DE e1 "__qualname__" t1 (.str qK t1'), DE e2 "__firstlineno__" t2 (.int 18 t2'), DE e4 "__slots__" t4 (.ref sl_), DE e5 "__init__" t5 (.ref f0), DE e6 "__lt__" t6 (.ref f1), DE e7 "__gt__" t7 (.ref f2), DE e8 "__eq__" t8 (.ref f3), DE e9 "__le__" t9 (.ref f4), DE hv "__ge__" tk vv]) 10 (by kernel_rfl!) (fun hv tk vv => by kernel_rfl!) ?_
  intro e10 t10 v10 g10 u10 hv10 S10
  clear Bd5
  subst hv10
  try dsimp only
  rw [hr6]
  refine wpAny_execs_cons (wpAny_Assign_Name (wpAny_Constant_none ?_))
  refine c_store (x := "__hash__") S10 cL (st1 _ _ (by decide)) (fun hv tk vv => #[DE e0 "__module__" t0 (.str "cpy313.functools" t3'), DE e1 "__qualname__" t1 (.str qK t1'), DE e2 "__firstlineno__" t2 (.int 18 t2'), DE e4 "__slots__" t4 (.ref sl_), DE e5 "__init__" t5 (.ref f0), DE e6 "__lt__" t6 (.ref f1), DE e7 "__gt__" t7 (.ref f2), DE e8 "__eq__" t8 (.ref f3), DE e9 "__le__" t9 (.ref f4), DE e10 "__ge__" t10 (.ref f5), DE hv "__hash__" tk vv]) 11 (by kernel_rfl!) (fun hv tk vv => by kernel_rfl!) ?_
  intro e11 t11 v11 g11 u11 hv11 S11
  clear S10
  subst hv11
  try dsimp only
  refine wpAny_execs_nil (hQx _ _ ?_)
  try dsimp only
  repeat (first
    | with_reducible (first | refine wpAny_bind ?_ | refine wpAny_pure ?_ | refine wpAny_holding ?_ | refine wpAny_rule ?_ | refine wpAny_standAt ?_ | refine wpAny_point ?_ | refine wpAny_of_eq (by assumption) ?_ | refine wpAny_fresh' ?_)
    | (with_reducible refine a_load2 ?_; refine ⟨_, (by first | assumption | exact Mem.old (by assumption) _ _ (by assumption) rfl | exact Mem.at (by assumption) 0 _ _ rfl | exact Mem.at (by assumption) 1 _ _ rfl | exact Mem.at (by assumption) 2 _ _ rfl | exact Mem.at (by assumption) 3 _ _ rfl | exact Mem.at (by assumption) 4 _ _ rfl | exact Mem.at (by assumption) 5 _ _ rfl | exact Mem.at (by assumption) 6 _ _ rfl | exact Mem.at (by assumption) 7 _ _ rfl), ?_⟩)
    | (with_reducible refine a_loadPart2 ?_; refine ⟨_, (by first | assumption | exact Mem.old (by assumption) _ _ (by assumption) rfl | exact Mem.at (by assumption) 0 _ _ rfl | exact Mem.at (by assumption) 1 _ _ rfl | exact Mem.at (by assumption) 2 _ _ rfl | exact Mem.at (by assumption) 3 _ _ rfl | exact Mem.at (by assumption) 4 _ _ rfl | exact Mem.at (by assumption) 5 _ _ rfl | exact Mem.at (by assumption) 6 _ _ rfl | exact Mem.at (by assumption) 7 _ _ rfl), ?_⟩)
    | with_reducible (first | refine a_ifF (by assumption) ?_ | refine a_ifT (by assumption) ?_)
    | (with_reducible refine wpAny_ite_false ?_ ?_; focus (first | kernel_rfl! | (simp; done)))
    | (with_reducible refine wpAny_ite_true ?_ ?_; focus (first | kernel_rfl! | (simp; done)))
    | (with_reducible refine a_collect (sl := sl) (ts := ts) ?_ hsl ?_; focus kernel_rfl)
    | with_reducible refine a_try ?_
    | ((fail_if_success (with_reducible first | show wpAny _ _ (PySem.getAttr? _ _) _ _ _ | show wpAny _ _ (PySem.classCode _ _ _ _ _ _) _ _ _ | show wpAny _ _ (PySem.builtinsFor _ _) _ _ _ | show wpAny _ _ (PySem.nsGet _ _) _ _ _ | show wpAny _ _ PySem.enterFrame _ _ _ | show wpAny _ _ (PySem.loadName _ _) _ _ _ | show wpAny _ _ (PySem.storeName _ _ _) _ _ _ | show wpAny _ _ (PySem.run _ _) _ _ _)); wp_delta)
    | with_reducible_and_instances refine wpAny_pure ?_
    | with_reducible_and_instances refine wpAny_bind ?_
    | with_reducible refine wpAny_runValue ?_)
  refine wpAny_onRaise ?_
  repeat (first
    | with_reducible (first | refine wpAny_bind ?_ | refine wpAny_pure ?_ | refine wpAny_holding ?_ | refine wpAny_rule ?_ | refine wpAny_standAt ?_ | refine wpAny_point ?_ | refine wpAny_of_eq (by assumption) ?_ | refine wpAny_fresh' ?_)
    | (with_reducible refine a_load2 ?_; refine ⟨_, (by first | assumption | exact Mem.old (by assumption) _ _ (by assumption) rfl | exact Mem.at (by assumption) 0 _ _ rfl | exact Mem.at (by assumption) 1 _ _ rfl | exact Mem.at (by assumption) 2 _ _ rfl | exact Mem.at (by assumption) 3 _ _ rfl | exact Mem.at (by assumption) 4 _ _ rfl | exact Mem.at (by assumption) 5 _ _ rfl | exact Mem.at (by assumption) 6 _ _ rfl | exact Mem.at (by assumption) 7 _ _ rfl), ?_⟩)
    | (with_reducible refine a_loadPart2 ?_; refine ⟨_, (by first | assumption | exact Mem.old (by assumption) _ _ (by assumption) rfl | exact Mem.at (by assumption) 0 _ _ rfl | exact Mem.at (by assumption) 1 _ _ rfl | exact Mem.at (by assumption) 2 _ _ rfl | exact Mem.at (by assumption) 3 _ _ rfl | exact Mem.at (by assumption) 4 _ _ rfl | exact Mem.at (by assumption) 5 _ _ rfl | exact Mem.at (by assumption) 6 _ _ rfl | exact Mem.at (by assumption) 7 _ _ rfl), ?_⟩)
    | with_reducible (first | refine a_ifF (by assumption) ?_ | refine a_ifT (by assumption) ?_)
    | (with_reducible refine wpAny_ite_false ?_ ?_; focus (first | kernel_rfl! | (simp; done)))
    | (with_reducible refine wpAny_ite_true ?_ ?_; focus (first | kernel_rfl! | (simp; done)))
    | (with_reducible refine a_collect (sl := sl) (ts := ts) ?_ hsl ?_; focus kernel_rfl)
    | with_reducible refine a_try ?_
    | ((fail_if_success (with_reducible first | show wpAny _ _ (PySem.getAttr? _ _) _ _ _ | show wpAny _ _ (PySem.classCode _ _ _ _ _ _) _ _ _ | show wpAny _ _ (PySem.builtinsFor _ _) _ _ _ | show wpAny _ _ (PySem.nsGet _ _) _ _ _ | show wpAny _ _ PySem.enterFrame _ _ _ | show wpAny _ _ (PySem.loadName _ _) _ _ _ | show wpAny _ _ (PySem.storeName _ _ _) _ _ _ | show wpAny _ _ (PySem.run _ _) _ _ _)); wp_delta)
    | with_reducible_and_instances refine wpAny_pure ?_
    | with_reducible_and_instances refine wpAny_bind ?_
    | with_reducible refine wpAny_runValue ?_)
  refine b_allocE (o' := { cls := .type "tuple", data := .seq #[.str "obj" u11] 0 }) S11 (by kernel_rfl!) rfl ?_
  intro sa_ gsa_ _ Bsa
  clear S11
  repeat (first
    | with_reducible (first | refine wpAny_bind ?_ | refine wpAny_pure ?_ | refine wpAny_holding ?_ | refine wpAny_rule ?_ | refine wpAny_standAt ?_ | refine wpAny_point ?_ | refine wpAny_of_eq (by assumption) ?_ | refine wpAny_fresh' ?_)
    | (with_reducible refine a_load2 ?_; refine ⟨_, (by first | assumption | exact Mem.old (by assumption) _ _ (by assumption) rfl | exact Mem.at (by assumption) 0 _ _ rfl | exact Mem.at (by assumption) 1 _ _ rfl | exact Mem.at (by assumption) 2 _ _ rfl | exact Mem.at (by assumption) 3 _ _ rfl | exact Mem.at (by assumption) 4 _ _ rfl | exact Mem.at (by assumption) 5 _ _ rfl | exact Mem.at (by assumption) 6 _ _ rfl | exact Mem.at (by assumption) 7 _ _ rfl), ?_⟩)
    | (with_reducible refine a_loadPart2 ?_; refine ⟨_, (by first | assumption | exact Mem.old (by assumption) _ _ (by assumption) rfl | exact Mem.at (by assumption) 0 _ _ rfl | exact Mem.at (by assumption) 1 _ _ rfl | exact Mem.at (by assumption) 2 _ _ rfl | exact Mem.at (by assumption) 3 _ _ rfl | exact Mem.at (by assumption) 4 _ _ rfl | exact Mem.at (by assumption) 5 _ _ rfl | exact Mem.at (by assumption) 6 _ _ rfl | exact Mem.at (by assumption) 7 _ _ rfl), ?_⟩)
    | with_reducible (first | refine a_ifF (by assumption) ?_ | refine a_ifT (by assumption) ?_)
    | (with_reducible refine wpAny_ite_false ?_ ?_; focus (first | kernel_rfl! | (simp; done)))
    | (with_reducible refine wpAny_ite_true ?_ ?_; focus (first | kernel_rfl! | (simp; done)))
    | (with_reducible refine a_collect (sl := sl) (ts := ts) ?_ hsl ?_; focus kernel_rfl)
    | with_reducible refine a_try ?_
    | ((fail_if_success (with_reducible first | show wpAny _ _ (PySem.getAttr? _ _) _ _ _ | show wpAny _ _ (PySem.classCode _ _ _ _ _ _) _ _ _ | show wpAny _ _ (PySem.builtinsFor _ _) _ _ _ | show wpAny _ _ (PySem.nsGet _ _) _ _ _ | show wpAny _ _ PySem.enterFrame _ _ _ | show wpAny _ _ (PySem.loadName _ _) _ _ _ | show wpAny _ _ (PySem.storeName _ _ _) _ _ _ | show wpAny _ _ (PySem.run _ _) _ _ _)); wp_delta)
    | with_reducible_and_instances refine wpAny_pure ?_
    | with_reducible_and_instances refine wpAny_bind ?_
    | with_reducible refine wpAny_runValue ?_)
  refine c_store (x := "__static_attributes__") Bsa cL (st2 _ _ (by decide)) (fun hv tk vv => #[DE e0 "__module__" t0 (.str "cpy313.functools" t3'), DE e1 "__qualname__" t1 (.str qK t1'), DE e2 "__firstlineno__" t2 (.int 18 t2'), DE e4 "__slots__" t4 (.ref sl_), DE e5 "__init__" t5 (.ref f0), DE e6 "__lt__" t6 (.ref f1), DE e7 "__gt__" t7 (.ref f2), DE e8 "__eq__" t8 (.ref f3), DE e9 "__le__" t9 (.ref f4), DE e10 "__ge__" t10 (.ref f5), DE e11 "__hash__" t11 (.none), DE hv "__static_attributes__" tk vv]) 12 (by kernel_rfl!) (fun hv tk vv => by kernel_rfl!) ?_
  intro e12 t12 v12 g12 u12 hv12 S12
  clear Bsa
  subst hv12
  repeat (first
    | with_reducible (first | refine wpAny_bind ?_ | refine wpAny_pure ?_ | refine wpAny_holding ?_ | refine wpAny_rule ?_ | refine wpAny_standAt ?_ | refine wpAny_point ?_ | refine wpAny_of_eq (by assumption) ?_ | refine wpAny_fresh' ?_)
    | (with_reducible refine a_load2 ?_; refine ⟨_, (by first | assumption | exact Mem.old (by assumption) _ _ (by assumption) rfl | exact Mem.at (by assumption) 0 _ _ rfl | exact Mem.at (by assumption) 1 _ _ rfl | exact Mem.at (by assumption) 2 _ _ rfl | exact Mem.at (by assumption) 3 _ _ rfl | exact Mem.at (by assumption) 4 _ _ rfl | exact Mem.at (by assumption) 5 _ _ rfl | exact Mem.at (by assumption) 6 _ _ rfl | exact Mem.at (by assumption) 7 _ _ rfl), ?_⟩)
    | (with_reducible refine a_loadPart2 ?_; refine ⟨_, (by first | assumption | exact Mem.old (by assumption) _ _ (by assumption) rfl | exact Mem.at (by assumption) 0 _ _ rfl | exact Mem.at (by assumption) 1 _ _ rfl | exact Mem.at (by assumption) 2 _ _ rfl | exact Mem.at (by assumption) 3 _ _ rfl | exact Mem.at (by assumption) 4 _ _ rfl | exact Mem.at (by assumption) 5 _ _ rfl | exact Mem.at (by assumption) 6 _ _ rfl | exact Mem.at (by assumption) 7 _ _ rfl), ?_⟩)
    | with_reducible (first | refine a_ifF (by assumption) ?_ | refine a_ifT (by assumption) ?_)
    | (with_reducible refine wpAny_ite_false ?_ ?_; focus (first | kernel_rfl! | (simp; done)))
    | (with_reducible refine wpAny_ite_true ?_ ?_; focus (first | kernel_rfl! | (simp; done)))
    | (with_reducible refine a_collect (sl := sl) (ts := ts) ?_ hsl ?_; focus kernel_rfl)
    | with_reducible refine a_try ?_
    | ((fail_if_success (with_reducible first | show wpAny _ _ (PySem.getAttr? _ _) _ _ _ | show wpAny _ _ (PySem.classCode _ _ _ _ _ _) _ _ _ | show wpAny _ _ (PySem.builtinsFor _ _) _ _ _ | show wpAny _ _ (PySem.nsGet _ _) _ _ _ | show wpAny _ _ PySem.enterFrame _ _ _ | show wpAny _ _ (PySem.loadName _ _) _ _ _ | show wpAny _ _ (PySem.storeName _ _ _) _ _ _ | show wpAny _ _ (PySem.run _ _) _ _ _)); wp_delta)
    | with_reducible_and_instances refine wpAny_pure ?_
    | with_reducible_and_instances refine wpAny_bind ?_
    | with_reducible refine wpAny_runValue ?_)
  show wpAny (MM w) A (call (.type "type") [.str "K" t, .ref bt, .ref ns]) _ _ _
  subst hM0 hM1 hM2 hM3 hM4 hM5
  have Hbt := S12.has _ ((.tail _ (.tail _ (.tail _ (.tail _ (.tail _ (.tail _ (.tail _ (.tail _ (.tail _ (.tail _ (.tail _ (.tail _ (.tail _ (.tail _ (.head _))))))))))))))))
  have Hsl := S12.has _ ((.tail _ (.tail _ (.tail _ (.tail _ (.tail _ (.tail _ (.tail _ (.tail _ (.tail _ (.tail _ (.tail _ (.tail _ (.tail _ (.head _)))))))))))))))
  have Hsa := S12.has _ ((.head _))
  have Hf5 := S12.has _ ((.tail _ (.head _)))
  have Hf4 := S12.has _ ((.tail _ (.tail _ (.tail _ (.head _)))))
  have Hf3 := S12.has _ ((.tail _ (.tail _ (.tail _ (.tail _ (.tail _ (.head _)))))))
  have Hf2 := S12.has _ ((.tail _ (.tail _ (.tail _ (.tail _ (.tail _ (.tail _ (.tail _ (.head _)))))))))
  have Hf1 := S12.has _ ((.tail _ (.tail _ (.tail _ (.tail _ (.tail _ (.tail _ (.tail _ (.tail _ (.tail _ (.head _)))))))))))
  have Hc1 := S12.has _ ((.tail _ (.tail _ (.tail _ (.tail _ (.tail _ (.tail _ (.tail _ (.tail _ (.tail _ (.tail _ (.head _))))))))))))
  have Hf0 := S12.has _ ((.tail _ (.tail _ (.tail _ (.tail _ (.tail _ (.tail _ (.tail _ (.tail _ (.tail _ (.tail _ (.tail _ (.head _)))))))))))))
  have Hc0 := S12.has _ ((.tail _ (.tail _ (.tail _ (.tail _ (.tail _ (.tail _ (.tail _ (.tail _ (.tail _ (.tail _ (.tail _ (.tail _ (.head _))))))))))))))
  refine type_class Hbt S12.en Hsl Hsa Hf0 Hf1 Hf2 Hf3 Hf4 Hf5 hnsm (S12.wd W).k (R.le (by omega) (by omega)) ?_
  intro K nd md hz tz hvz hdz tmz Dz
  repeat (first
    | with_reducible (first | refine wpAny_bind ?_ | refine wpAny_pure ?_ | refine wpAny_holding ?_ | refine wpAny_rule ?_ | refine wpAny_standAt ?_ | refine wpAny_point ?_ | refine wpAny_of_eq (by assumption) ?_ | refine wpAny_fresh' ?_)
    | (with_reducible refine a_load2 ?_; refine ⟨_, (by first | assumption | exact Mem.old (by assumption) _ _ (by assumption) rfl | exact Mem.at (by assumption) 0 _ _ rfl | exact Mem.at (by assumption) 1 _ _ rfl | exact Mem.at (by assumption) 2 _ _ rfl | exact Mem.at (by assumption) 3 _ _ rfl | exact Mem.at (by assumption) 4 _ _ rfl | exact Mem.at (by assumption) 5 _ _ rfl | exact Mem.at (by assumption) 6 _ _ rfl | exact Mem.at (by assumption) 7 _ _ rfl), ?_⟩)
    | (with_reducible refine a_loadPart2 ?_; refine ⟨_, (by first | assumption | exact Mem.old (by assumption) _ _ (by assumption) rfl | exact Mem.at (by assumption) 0 _ _ rfl | exact Mem.at (by assumption) 1 _ _ rfl | exact Mem.at (by assumption) 2 _ _ rfl | exact Mem.at (by assumption) 3 _ _ rfl | exact Mem.at (by assumption) 4 _ _ rfl | exact Mem.at (by assumption) 5 _ _ rfl | exact Mem.at (by assumption) 6 _ _ rfl | exact Mem.at (by assumption) 7 _ _ rfl), ?_⟩)
    | with_reducible (first | refine a_ifF (by assumption) ?_ | refine a_ifT (by assumption) ?_)
    | (with_reducible refine wpAny_ite_false ?_ ?_; focus (first | kernel_rfl! | (simp; done)))
    | (with_reducible refine wpAny_ite_true ?_ ?_; focus (first | kernel_rfl! | (simp; done)))
    | (with_reducible refine a_collect (sl := sl) (ts := ts) ?_ hsl ?_; focus kernel_rfl)
    | with_reducible refine a_try ?_
    | ((fail_if_success (with_reducible first | show wpAny _ _ (PySem.getAttr? _ _) _ _ _ | show wpAny _ _ (PySem.classCode _ _ _ _ _ _) _ _ _ | show wpAny _ _ (PySem.builtinsFor _ _) _ _ _ | show wpAny _ _ (PySem.nsGet _ _) _ _ _ | show wpAny _ _ PySem.enterFrame _ _ _ | show wpAny _ _ (PySem.loadName _ _) _ _ _ | show wpAny _ _ (PySem.storeName _ _ _) _ _ _ | show wpAny _ _ (PySem.run _ _) _ _ _)); wp_delta)
    | with_reducible_and_instances refine wpAny_pure ?_
    | with_reducible_and_instances refine wpAny_bind ?_
    | with_reducible refine wpAny_runValue ?_)
  have Gz : Gr [] _ hz := mem_gr Dz
  have e24 : ∃ ps, h.get? 24 = some (tabObj ps) := by
    obtain ⟨ps, e, _⟩ | ⟨c', P', ⟨ps, e, _⟩, _⟩ := T
    · exact ⟨_, e⟩
    · exact ⟨_, e⟩
  obtain ⟨ps24, e24⟩ := e24
  have L24 : L ≠ 24 := (not_frame S.ns e24 (by intro es n q; cases q)).symm
  have Hcm := S.own (cm, oc) (.head _)
  have cm24 : cm ≠ 24 := by
    intro z; subst z; rw [e24] at Hcm; cases Hcm; cases hoc
  have up : ∀ b o, b ≠ 24 → h.get? b = some o → hz.get? b = some o := fun b o n e => Gz.all _ _ (S12.gr.keep b o (by simpa using n) e)
  have Nl : hz.Ns L m := ns_at S.ns fun o e => up _ _ L24 e
  refine s_locX Nl eL eK (by rw [ek]; rfl) (fun hy hn sb => ?_)
  repeat (first
    | with_reducible (first | refine wpAny_bind ?_ | refine wpAny_pure ?_ | refine wpAny_holding ?_ | refine wpAny_rule ?_ | refine wpAny_standAt ?_ | refine wpAny_point ?_ | refine wpAny_of_eq (by assumption) ?_ | refine wpAny_fresh' ?_)
    | (with_reducible refine a_load2 ?_; refine ⟨_, (by first | assumption | exact Mem.old (by assumption) _ _ (by assumption) rfl | exact Mem.at (by assumption) 0 _ _ rfl | exact Mem.at (by assumption) 1 _ _ rfl | exact Mem.at (by assumption) 2 _ _ rfl | exact Mem.at (by assumption) 3 _ _ rfl | exact Mem.at (by assumption) 4 _ _ rfl | exact Mem.at (by assumption) 5 _ _ rfl | exact Mem.at (by assumption) 6 _ _ rfl | exact Mem.at (by assumption) 7 _ _ rfl), ?_⟩)
    | (with_reducible refine a_loadPart2 ?_; refine ⟨_, (by first | assumption | exact Mem.old (by assumption) _ _ (by assumption) rfl | exact Mem.at (by assumption) 0 _ _ rfl | exact Mem.at (by assumption) 1 _ _ rfl | exact Mem.at (by assumption) 2 _ _ rfl | exact Mem.at (by assumption) 3 _ _ rfl | exact Mem.at (by assumption) 4 _ _ rfl | exact Mem.at (by assumption) 5 _ _ rfl | exact Mem.at (by assumption) 6 _ _ rfl | exact Mem.at (by assumption) 7 _ _ rfl), ?_⟩)
    | with_reducible (first | refine a_ifF (by assumption) ?_ | refine a_ifT (by assumption) ?_)
    | (with_reducible refine wpAny_ite_false ?_ ?_; focus (first | kernel_rfl! | (simp; done)))
    | (with_reducible refine wpAny_ite_true ?_ ?_; focus (first | kernel_rfl! | (simp; done)))
    | (with_reducible refine a_collect (sl := sl) (ts := ts) ?_ hsl ?_; focus kernel_rfl)
    | with_reducible refine a_try ?_
    | ((fail_if_success (with_reducible first | show wpAny _ _ (PySem.getAttr? _ _) _ _ _ | show wpAny _ _ (PySem.classCode _ _ _ _ _ _) _ _ _ | show wpAny _ _ (PySem.builtinsFor _ _) _ _ _ | show wpAny _ _ (PySem.nsGet _ _) _ _ _ | show wpAny _ _ PySem.enterFrame _ _ _ | show wpAny _ _ (PySem.loadName _ _) _ _ _ | show wpAny _ _ (PySem.storeName _ _ _) _ _ _ | show wpAny _ _ (PySem.run _ _) _ _ _)); wp_delta)
    | with_reducible_and_instances refine wpAny_pure ?_
    | with_reducible_and_instances refine wpAny_bind ?_
    | with_reducible refine wpAny_runValue ?_)
  have LL : L ≠ c ∧ L ≠ P := by
    refine ⟨?_, ?_⟩
    · obtain ⟨o, vs, _, _, _, _, _, _, _, e1, _, e2, _⟩ := S12.cls.hd
      exact (not_frame Nl (Gz.all _ _ e1) (by intro es n q'; rw [e2] at q'; cases q')).symm
    · obtain ⟨ps, e, _⟩ := S12.cls.tab
      exact (not_frame Nl (Gz.all _ _ e) (by intro es n q'; cases q')).symm
  have hx := sb.extBut
  have HF := has8 (Dz.at 1 _ _ rfl) (Dz.at 2 _ _ rfl) (Dz.at 0 _ _ rfl) (Gz.all _ _ Hf0) (Gz.all _ _ Hf1) (Gz.all _ _ Hc0) (Gz.all _ _ Hc1) (up _ _ cm24 Hcm)
  have Ng := ns_at (h' := g12) S.ns fun o e => S12.gr.keep L o (by simpa using L24) e
  obtain ⟨oL, _, _, eLg, _⟩ := id Ng
  obtain ⟨psg, e24g, _⟩ := id S12.hit24
  have fresh : ∀ {a : Addr}, g12.get? a = none → a ≠ L ∧ a ≠ 24 := fun n => ⟨(none_ne n eLg).symm, (none_ne n e24g).symm⟩
  have AW := all8 (P := fun p => p.1 ≠ L ∧ p.1 ≠ 24) (fresh (Dz.nw _ (.tail _ (.head _))).2) (fresh (Dz.nw _ (.tail _ (.tail _ (.head _)))).2) (fresh (Dz.nw _ (.head _)).2)
    ⟨not_frame Ng Hf0 (by intro es n z; cases z), (S12.away _ ((.tail _ (.tail _ (.tail _ (.tail _ (.tail _ (.tail _ (.tail _ (.tail _ (.tail _ (.tail _ (.tail _ (.head _)))))))))))))).2.2⟩ ⟨not_frame Ng Hf1 (by intro es n z; cases z), (S12.away _ ((.tail _ (.tail _ (.tail _ (.tail _ (.tail _ (.tail _ (.tail _ (.tail _ (.tail _ (.head _)))))))))))).2.2⟩
    ⟨not_frame Ng Hc0 (code_not_dict hco0), (S12.away _ ((.tail _ (.tail _ (.tail _ (.tail _ (.tail _ (.tail _ (.tail _ (.tail _ (.tail _ (.tail _ (.tail _ (.tail _ (.head _))))))))))))))).2.2⟩ ⟨not_frame Ng Hc1 (code_not_dict hco1), (S12.away _ ((.tail _ (.tail _ (.tail _ (.tail _ (.tail _ (.tail _ (.tail _ (.tail _ (.tail _ (.tail _ (.head _))))))))))))).2.2⟩ ⟨(S.gt _ (.head _)).1, cm24⟩
  refine q K _ hy _ ⟨⟨fun b o n e => hx _ _ (none_ne S.lo e) (up _ _ (by simpa using n) (S.gr.keep b o (by simp) e))⟩, S.lo, hn, fun p hp => ?_, S.gt, S.ord⟩
    (KRel.mk' hco0 hco1 hoc) (fun p hp => hx _ _ (AW p hp).1 (HF p hp)) (.inr ⟨c, P, ?_, ?_⟩) AW ?_
  · rw [List.mem_singleton.mp hp]
    exact hx _ _ (S.gt _ (.head _)).1 (up _ _ cm24 Hcm)
  · exact (S12.hit24.gr (Gz.all _)).gr fun o e => hx _ _ L24.symm e
  · have X := S12.cls.gr Gz.all
    refine ⟨?_, X.n1, X.n2, X.n3, X.n4, X.n5, (X.tab.ext LL.2.symm (fun c oc q' e1 e2 => not_frame Nl e1 (code_not_dict e2)) hx).less (fun x hx => by simp only [keys6, List.mem_cons, List.not_mem_nil, or_false] at hx; rcases hx with rfl | rfl | rfl | rfl | rfl | rfl <;> simp)⟩
    obtain ⟨o, vs, file, tf, flags, tg, inF, text, tt, e1, r⟩ := X.hd
    exact ⟨o, vs, file, tf, flags, tg, inF, text, tt, hx _ _ LL.1.symm e1, r⟩
  · cases e : h.get? K with
    | none => rfl
    | some o =>
      have n := (Dz.nw _ (.tail _ (.head _))).2
      by_cases z : K = 24
      · exact absurd z (fresh n).2
      · rw [S12.gr.keep K o (by simpa using z) e] at n; cases n
end
end Mine
end
section
open PySem PySem.W PySem.W.X PyProof.Rows PySem.Calls
set_option maxRecDepth 100000
namespace Mine
noncomputable abbrev twoArgs (x y : Str) (p1 p2 : Pos) : Arguments := { posonlyargs := [], args := [⟨x, none, p1⟩, ⟨y, none, p2⟩], vararg := none, kwonlyargs := [], kw_defaults := [], kwarg := none, defaults := [] }
noncomputable def ShI (a : Arguments) (b : List Stmt) (s : Scope) : Prop := ∃ p1 p2 p3 p4 p5 p6 m, a = twoArgs "self" "obj" p1 p2 ∧
  b = [.Assign [.Attribute (.Name "self" p3) "obj" p4] (.Name "obj" p5) p6] ∧ s = { kind := .function, names := [("self", .local), ("obj", .local)], isGenerator := false, isCoroutine := false, more := m }
noncomputable def ShL (a : Arguments) (b : List Stmt) (s : Scope) : Prop := ∃ p1 p2 p3 p4 p5 p6 p7 p8 p9 p10 p11 k m, a = twoArgs "self" "other" p1 p2 ∧
  b = [.Return (some (.Compare (.Call (.Name "mycmp" p3) [.Attribute (.Name "self" p4) "obj" p5, .Attribute (.Name "other" p6) "obj" p7] [] p8) [.Lt] [.Constant (.int 0) k p9] p10)) p11] ∧
  s = { kind := .function, names := [("self", .local), ("other", .local), ("mycmp", .free)], isGenerator := false, isCoroutine := false, more := m }
noncomputable def KR (fs : Facts) (K cm : Addr) : Prop := ∃ a0 a1 b0 b1 s0 s1, KRel a0 a1 b0 b1 s0 s1 fs K cm ∧ ShI a0 b0 s0 ∧ ShL a1 b1 s1
theorem closure_mycmp {sc : Scope} {cm : Addr} (h : sc.names = [(("self" : Str), NameKind.local), (("other" : Str), NameKind.local), (("mycmp" : Str), NameKind.free)]) (env : Env) (e : env.cells.lookup ("mycmp" : Str) = some cm) : closureFor sc env = pure [(("mycmp" : Str), cm)] := by
  unfold closureFor
  rw [h]
  have e1 : cellOf env "mycmp" = pure cm := by unfold cellOf; rw [e]
  simp only [List.forIn_cons, List.forIn_nil, e1]
  rfl
section
variable {w : World} {mg mb : Str → Option Value} {g : Array GenState} {d : Drawn} {os : OsState}
set_option maxHeartbeats 4000000 in
theorem ctk_spec {A : Around} {E : Value → Shared → Prop} {h : Heap} {t : Nat} (R : RoomN 3 40 A) (W : Wd w mg mb h) (T : ClsSt h) (h64 : ∃ o, h.get? 64 = some o) :
    wpAny (MM w) A (call (.ref 29) [.ref 45]) (fun v s' => ∃ K fs cm h' t', v = .ref K ∧ s' = ⟨h', g, d, t', os⟩ ∧ Gr [24] h h' ∧ KR fs K cm ∧ Has fs h' ∧ ClsSt h' ∧ h.get? K = none) E ⟨h, g, d, t, os⟩ := by
  refine wpAny_call (codeAny_call_cells (binds := [("mycmp", .ref 45)]) R.lim (W.k 29 _ rfl) rfl W.lim (codeRec_of W.k rfl) rfl rfl rfl (fun x hx => by rw [List.mem_singleton.mp hx]; exact .inr ⟨rfl, rfl⟩) (fun s₁ x => ?_))
  obtain ⟨h₁, t₁, oc, rfl, S₁, hoc⟩ := sta_cell1 x
  have W₁ := W.gr Tabs.nil S₁.gr
  have h64₁ : ∃ o, h₁.get? 64 = some o := by obtain ⟨o, e⟩ := h64; exact ⟨o, S₁.all _ _ e⟩
  refine wpAny_execs_cons ?_
  refine class_def (cm := h.objs.size + 1) (oc := oc) (RoomN.deep (n := 2) (u := 30) (R.le (by omega) (by omega))) W₁ (T.gr S₁.all) h64₁ S₁ hoc rfl rfl rfl rfl rfl rfl rfl rfl (by kernel_rfl!) rfl (by rfl) rfl rfl rfl ?scl rfl ?sl ?sn ?hargs ?hcl0 ?hcl ?q
  case scl => rfl
  case sl => intro x hx; simp only [List.mem_cons, List.not_mem_nil, or_false] at hx; rcases hx with rfl | rfl | rfl | rfl | rfl | rfl | rfl | rfl | rfl <;> rfl
  case sn => intro x hx; simp only [List.mem_cons, List.not_mem_nil, or_false] at hx; rcases hx with rfl | rfl | rfl | rfl <;> rfl
  case hargs => intro a ha; simp only [List.mem_cons, List.not_mem_nil, or_false] at ha; rcases ha with rfl | rfl | rfl | rfl | rfl | rfl <;> exact ⟨rfl, rfl, fun _ => rfl⟩
  case hcl0 => intro env; rfl
  case hcl => intro s hs env e; simp only [List.mem_cons, List.not_mem_nil, or_false] at hs; rcases hs with rfl | rfl | rfl | rfl | rfl <;> exact closure_mycmp rfl env e
  case q =>
    intro K fs h' t' S' kr hf T' aw nK
    dsimp only
    refine wpAny_execs_cons (wpAny_Return_some (n_loc S' rfl ?_))
    refine ⟨K, fs, h.objs.size + 1, h', _, rfl, rfl, S'.gr, ⟨_, _, _, _, _, _, kr, ⟨_, _, _, _, _, _, _, rfl, rfl, rfl⟩, ⟨_, _, _, _, _, _, _, _, _, _, _, _, _, rfl, rfl, rfl⟩⟩, hf, T', not_in S₁.all nK⟩
end
end Mine
end
section
open PySem PySem.W PySem.W.X PyProof.Rows PySem.Calls
set_option maxRecDepth 100000
namespace Mine
theorem lookup_mem {fs : Facts} {a : Addr} {o : Obj} (e : List.lookup a fs = some o) : (a, o) ∈ fs := by
  induction fs with
  | nil => cases e
  | cons p r ih =>
    obtain ⟨b, o'⟩ := p
    rw [List.lookup_cons] at e
    cases hb : a == b with
    | true => rw [hb] at e; cases e; rw [beq_iff_eq.mp hb]; exact .head _
    | false => rw [hb] at e; exact .tail _ (ih e)
theorem has_in {fs : Facts} {h : Heap} (x : Has fs h) : Frag.In fs h := fun _ _ e => x _ (lookup_mem e)
theorem lookup_key {fs : Facts} {a : Addr} {o : Obj} (m : (a, o) ∈ fs) : ∃ o', List.lookup a fs = some o' := by
  induction fs with
  | nil => cases m
  | cons p r ih =>
    obtain ⟨b, o'⟩ := p
    rw [List.lookup_cons]
    cases hb : a == b with
    | true => exact ⟨_, rfl⟩
    | false =>
      rcases List.mem_cons.mp m with q | m
      · cases q; rw [beq_self_eq_true] at hb; cases hb
      · exact ih m
theorem lookup_has {fs : Facts} {h : Heap} (x : Has fs h) {a : Addr} {o : Obj} (m : (a, o) ∈ fs) : List.lookup a fs = some o := by
  obtain ⟨o', e⟩ := lookup_key m
  have e1 := has_in x _ _ e
  have e2 : h.get? a = some o := x _ m
  rw [e1] at e2; cases e2; exact e
/-- what the class K answers to look-ups -/
structure KFacts (fs : Facts) (K md f0 f1 : Addr) (nm : Str) : Prop where
  makes : makesIn fs K = true
  init : findIn fs (.ref K) "__init__" = some (some (.ref f0))
  lt : findIn fs (.ref K) "__lt__" = some (some (.ref f1))
  t0 : typeIn fs (.ref f0) = some (.type "function")
  t1 : typeIn fs (.ref f1) = some (.type "function")
  set : findIn fs (.ref K) "__setattr__" = some (some (.builtin "object.__setattr__"))
  plain : plainOver fs K = true
  obj : findIn fs (.ref K) "obj" = some (some (.ref md))
  tm : typeIn fs (.ref md) = some (.type "member_descriptor")
  slot : slotIn fs md K = some 0
  pg : plainGet fs K "obj" = true
  takes : takesIn fs (.ref md) = some true
  taker : takerIn fs K "obj" = some (some (.ref md))
  getm : specialIn fs (.ref md) "__get__" = some (some (.builtin "member_descriptor.__get__"))
  cls : isClsIn fs K = true
theorem kfacts {fs : Facts} {a0 a1 : Arguments} {b0 b1 : List Stmt} {s0 s1 : Scope} {K cm : Addr} {h : Heap} (k : KRel a0 a1 b0 b1 s0 s1 fs K cm) (x : Has fs h) :
    ∃ md f0 f1 cf0 cf1 oc0 oc1 oc doc0 doc1 pm0 pm1 ctv0 ctv1, KFacts fs K md f0 f1 "obj" ∧
      h.get? f0 = some (fnMade "__init__" "cmp_to_key.<locals>.K.__init__" a0 b0 s0 [] doc0 pm0 cf0 ctv0) ∧ h.get? f1 = some (fnMade "__lt__" "cmp_to_key.<locals>.K.__lt__" a1 b1 s1 [(("mycmp" : Str), cm)] doc1 pm1 cf1 ctv1) ∧
      h.get? cf0 = some oc0 ∧ h.get? cf1 = some oc1 ∧ CodeOb oc0 "cmp_to_key.<locals>.K.__init__" ∧ CodeOb oc1 "cmp_to_key.<locals>.K.__lt__" ∧ h.get? cm = some oc ∧ oc.data = .cell (some (.ref 45)) := by
  obtain ⟨bt, nd, md, sl, sa, f0, f1, f2, f3, f4, f5, cf0, cf1, e0, e2, e3, e4, e5, e6, e7, e8, e9, e10, e11, hv, hd, tk, t0, t0', t1', t2, t2', t3, t4, t5, t6, t7, t8, t9, t10, t11, tm, oc0, oc1, oc, doc0, doc1, pm0, pm1, ctv0, ctv1, efs, h0, h1, h2⟩ := k
  have ek : List.lookup K fs = some (KO nd [.ref K, .type "object"] false ["obj"] #[some (.ref bt), none, some (.str "K" tk), some (.str "cmp_to_key.<locals>.K" t1'), some (.builtin "object.__new__"), some (.bool false)]) := lookup_has x (by rw [efs]; simp only [List.mem_cons, true_or, or_true])
  have en : List.lookup nd fs = some ({ cls := .type "dict", data := .dict #[DE e0 "__module__" t0 (.str "cpy313.functools" t0'), DE e2 "__firstlineno__" t2 (.int 18 t2'), DE e3 "__slots__" t3 (.ref sl), DE e4 "__init__" t4 (.ref f0), DE e5 "__lt__" t5 (.ref f1), DE e6 "__gt__" t6 (.ref f2), DE e7 "__eq__" t7 (.ref f3), DE e8 "__le__" t8 (.ref f4), DE e9 "__ge__" t9 (.ref f5), DE e10 "__hash__" t10 .none, DE e11 "__static_attributes__" t11 (.ref sa), DE hv "obj" (tm + 1) (.ref md), DE hd "__doc__" (tm + 2) .none] 3 }) := lookup_has x (by rw [efs]; simp only [List.mem_cons, true_or, or_true])
  have em : List.lookup md fs = some ({ cls := .type "member_descriptor", data := .fields #[.str "obj" tm, .ref K, .builtin "proto.slot", .builtin "proto.slot#set", .int 0 0] }) := lookup_has x (by rw [efs]; simp only [List.mem_cons, true_or, or_true])
  have ef0 : List.lookup f0 fs = some (fnMade "__init__" "cmp_to_key.<locals>.K.__init__" a0 b0 s0 [] doc0 pm0 cf0 ctv0) := lookup_has x (by rw [efs]; simp only [List.mem_cons, true_or, or_true])
  have ef1 : List.lookup f1 fs = some (fnMade "__lt__" "cmp_to_key.<locals>.K.__lt__" a1 b1 s1 [(("mycmp" : Str), cm)] doc1 pm1 cf1 ctv1) := lookup_has x (by rw [efs]; simp only [List.mem_cons, true_or, or_true])
  have ec0 : List.lookup cf0 fs = some oc0 := lookup_has x (by rw [efs]; simp only [List.mem_cons, true_or, or_true])
  have ec1 : List.lookup cf1 fs = some oc1 := lookup_has x (by rw [efs]; simp only [List.mem_cons, true_or, or_true])
  have ecm : List.lookup cm fs = some oc := lookup_has x (by rw [efs]; simp only [List.mem_cons, true_or, or_true])
  clear efs
  have X := has_in x
  have hc : clsIn fs K = some { name := "K", bases := [.type "object"], mro := [.ref K, .type "object"], ns := nd, qualname := "cmp_to_key.<locals>.K", hasDict := false, slotNames := ["obj"] } := by unfold clsIn; rw [ek]
  have fi : ∀ (name : Str) (r : Option Value), alongIn fs name [.ref K, .type "object"] = some r → findIn fs (.ref K) name = some r := fun name r e => by unfold findIn; dsimp only; rw [ek]; exact e
  have own : ∀ name : Str, ownIn fs name (.ref K) = nsIn fs nd name := fun name => by unfold ownIn; dsimp only; rw [ek]
  have al1 : ∀ (name : Str) (v : Value), nsIn fs nd name = some (some v) → findIn fs (.ref K) name = some (some v) := fun name v e => fi _ _ (by unfold alongIn; rw [own, e])
  have al2 : ∀ (name : Str) (r : Option Value), nsIn fs nd name = some none → alongIn fs name [.type "object"] = some r → findIn fs (.ref K) name = some r := fun name v e e' => fi _ _ (by unfold alongIn; rw [own, e]; exact e')
  have find_obj : findIn fs (.ref K) "obj" = some (some (.ref md)) := al1 _ _ (by unfold nsIn; rw [en]; kernel_rfl!)
  have tym : typeIn fs (.ref md) = some (.type "member_descriptor") := by unfold typeIn; dsimp only; rw [em]; rfl
  have tks : takesIn fs (.ref md) = some true := by
    have z : specialIn fs (.ref md) "__set__" = some (some (.builtin "member_descriptor.__set__")) := by unfold specialIn; rw [tym]; kernel_rfl!
    unfold takesIn; rw [z]
  refine ⟨md, f0, f1, cf0, cf1, oc0, oc1, oc, doc0, doc1, pm0, pm1, ctv0, ctv1, ⟨?_, ?_, ?_, ?_, ?_, ?_, ?_, find_obj, tym, ?_, ?_, tks, ?_, ?_, ?_⟩, X _ _ ef0, X _ _ ef1, X _ _ ec0, X _ _ ec1, h0, h1, X _ _ ecm, h2⟩
  · have m : instIn fs (.ref K) (.type "type") = some true := by unfold instIn typeIn; dsimp only; rw [ek]; kernel_rfl!
    have c : specialIn fs (.ref K) "__call__" = some (some (.builtin "type.__call__")) := by unfold specialIn typeIn; dsimp only; rw [ek]; kernel_rfl!
    unfold makesIn
    rw [ek, m, c]
    simp
  · exact al1 _ _ (by unfold nsIn; rw [en]; kernel_rfl!)
  · exact al1 _ _ (by unfold nsIn; rw [en]; kernel_rfl!)
  · unfold typeIn; dsimp only; rw [ef0]; rfl
  · unfold typeIn; dsimp only; rw [ef1]; rfl
  · exact al2 _ _ (by unfold nsIn; rw [en]; kernel_rfl!) (by kernel_rfl!)
  · unfold plainOver; rw [hc]; kernel_rfl!
  · unfold slotIn recIn
    rw [em, hc]
    simp
  · unfold plainGet
    rw [al2 "__getattribute__" (some (.builtin "object.__getattribute__")) (by unfold nsIn; rw [en]; kernel_rfl!) (by kernel_rfl!), al2 "__getattr__" none (by unfold nsIn; rw [en]; kernel_rfl!) (by kernel_rfl!)]
    kernel_rfl!
  · unfold takerIn; rw [find_obj]; simp only [Option.bind_some, tks, Option.map_some, if_true]
  · unfold specialIn; rw [tym]; kernel_rfl!
  · unfold isClsIn; rw [hc]; rfl
end Mine
end
section
open PySem PySem.W PySem.W.X PyProof.Rows PySem.Calls
set_option maxRecDepth 100000
namespace Mine
/-- a thing of the class K that holds v -/
noncomputable abbrev KInst (K dx : Addr) (v : Value) : Obj := { cls := .ref K, dict := some dx, data := .plain, slots := #[some v] }
theorem inst_at {h : Heap} {x K dx : Addr} {v : Value} (e : h.get? x = some (KInst K dx v)) (e' : h.get? dx = some emptyDict) : PySem.W.InstAt h x (KInst K dx v) K (some emptyDict) := ⟨e, rfl, rfl, e'⟩
section
variable {w : World} {mg mb : Str → Option Value} {g : Array GenState} {d : Drawn} {os : OsState}
theorem codeRec_ob {h : Heap} {c : Addr} {o : Obj} {q : Str} (e : h.get? c = some o) (x : CodeOb o q) : h.CodeRec (.ref c) q := by
  obtain ⟨vs, tq, e1, e2⟩ := x
  exact ⟨c, o, vs, tq, rfl, e, e1, e2⟩
set_option maxHeartbeats 4000000 in
theorem mk_spec {A : Around} {E : Value → Shared → Prop} {fs : Facts} {K cm : Addr} {v : Value} {h : Heap} {t : Nat} (R : RoomN 2 30 A) (W : Wd w mg mb h) (kr : KR fs K cm) (hf : Has fs h) :
    wpAny (MM w) A (call (.ref K) [v]) (fun r s' => ∃ x dx h' t', r = .ref x ∧ s' = ⟨h', g, d, t', os⟩ ∧ Gr [] h h' ∧ h'.get? x = some (KInst K dx v) ∧ h'.get? dx = some emptyDict ∧ h.get? x = none ∧ h.get? dx = none ∧ dx ≠ x) E ⟨h, g, d, t, os⟩ := by
  obtain ⟨a0, a1, b0, b1, s0, s1, k, ⟨p1, p2, p3, p4, p5, p6, mo, rfl, rfl, rfl⟩, _⟩ := kr
  obtain ⟨md, f0, f1, cf0, cf1, oc0, oc1, oc, doc0, doc1, pm0, pm1, ctv0, ctv1, F, hf0, hf1, hc0, hc1, ho0, ho1, hcm, hcv⟩ := kfacts k hf
  have X := has_in hf
  refine wpAny_call (make_core (makes_of X F.makes) (looks_findIn X F.init) (fun self => bind_fn X self F.t0) (.inl rfl) ?_)
  have up : ∀ b o, h.get? b = some o → ((h.push emptyDict).push (instObj K h.objs.size)).get? b = some o := fun b o e => Heap.get?_push_of_some _ (Heap.get?_push_of_some _ e)
  have W₁ := W.gr Tabs.nil (Gr.of up)
  have hx : ((h.push emptyDict).push (instObj K h.objs.size)).get? (h.objs.size + 1) = some (instObj K h.objs.size) := by heap_get
  have hdx : ((h.push emptyDict).push (instObj K h.objs.size)).get? h.objs.size = some emptyDict := by heap_get
  have nx : h.get? (h.objs.size + 1) = none := Heap.get?_none_of_le (Nat.le_succ _)
  have nd : h.get? h.objs.size = none := size_none h
  have hsz : ((h.push emptyDict).push (instObj K h.objs.size)).objs.size = h.objs.size + 2 := by rw [Heap.size_push, Heap.size_push]
  refine codeAny_call_def (binds := [("self", .ref (h.objs.size + 1)), ("obj", v)]) ?_ (up _ _ hf0) rfl W₁.lim (codeRec_ob (up _ _ hc0) ho0) rfl (BindsTo.of_eq rfl) ?_ (locs rfl) (fun h₁ hns hk => ?_)
  · have := R.d; show A.depth + 1 < 1000; omega
  · intro y hy; simp only [List.mem_cons, List.not_mem_nil, or_false] at hy; rcases hy with rfl | rfl <;> decide
  have S₁ := Sta.mk' (ts := []) (Gr.of hk) (size_none _) hns
  have FR : Fr h ((h.push emptyDict).push (instObj K h.objs.size)).objs.size h₁ (fun x => List.lookup x ([("self", .ref (h.objs.size + 1)), ("obj", v)] : List (Str × Value)).reverse) := ⟨hns, fun b o e => hk _ _ (up _ _ e), by rw [hsz]; omega⟩
  have N : News h ((h.push emptyDict).push (instObj K h.objs.size)).objs.size h₁ [(h.objs.size + 1, instObj K h.objs.size), (h.objs.size, emptyDict)] := by
    intro p hp
    simp only [List.mem_cons, List.not_mem_nil, or_false] at hp
    rcases hp with rfl | rfl
    · exact ⟨hk _ _ hx, by show h.objs.size + 1 ≠ _; rw [hsz]; omega, nx⟩
    · exact ⟨hk _ _ hdx, by show h.objs.size ≠ _; rw [hsz]; omega, nd⟩
  refine wpAny_execs_cons (plainObj_wpAny_Assign_Attribute (n_loc S₁ rfl (n_loc S₁ rfl ?_)))
  refine set_slot FR X N ⟨hk _ _ hx, rfl, rfl, hk _ _ hdx⟩ F.set F.plain F.taker F.tm F.slot (by decide) rfl rfl (.head fun p hp => by rw [List.mem_singleton.mp hp]; show h.objs.size ≠ h.objs.size + 1; omega) (fun h₂ F₂ N₂ => ?_)
  refine wpAny_execs_nil ?_
  refine ⟨rfl, h.objs.size + 1, h.objs.size, h₂, _, rfl, rfl, Gr.of F₂.keep, ?_, (N₂ _ (.tail _ (.head _))).1, nx, nd, by show h.objs.size ≠ h.objs.size + 1; omega⟩
  exact (N₂ _ (.head _)).1
end
end Mine
end
section
open PySem PySem.W PyProof.Rows
namespace Mine
section
variable {N : Nat} {key : Nat → Int} {I : Shared → Prop} {cmp : Nat → Nat → (Bool → Shared → Prop) → Shared → Prop} {p : Array Nat} {s : Shared}
noncomputable def kk (key : Nat → Int) (p : Array Nat) (i : Nat) : Int := key (p.getD i 0)
noncomputable def Pm (N : Nat) (p : Array Nat) : Prop := p.Perm (List.toArray (List.range N))
noncomputable def SoT (key : Nat → Int) (p : Array Nat) (k : Nat) : Prop := ∀ i j, i ≤ j → j < k → kk key p i ≤ kk key p j
noncomputable def NiT (key : Nat → Int) (p : Array Nat) (k : Nat) : Prop := ∀ i j, i ≤ j → j < k → kk key p j ≤ kk key p i
theorem Pm.size (h : Pm N p) : p.size = N := by rw [Array.Perm.size_eq h]; simp
theorem Pm.lt (h : Pm N p) {i : Nat} (hi : i < N) : p.getD i 0 < N := by
  have hs := h.size
  have hi' : i < p.size := by first | assumption | exact Nat.le_refl _ | exact Nat.le_of_lt (by assumption) | exact Nat.lt_of_lt_of_le (by assumption) (by assumption) | exact Nat.le_trans (by assumption) (by assumption) | exact Nat.lt_of_le_of_lt (by assumption) (by assumption) | exact Nat.lt_trans (by assumption) (by assumption) | exact Nat.le_succ_of_le (by assumption) | exact Nat.lt_succ_of_le (by assumption) | omega
  have e : p.getD i 0 = p[i] := by simp [Array.getD, hi']
  rw [e]
  have hm : p[i] ∈ (List.range N) := by
    have := (Array.perm_iff_toList_perm.mp h).mem_iff (a := p[i])
    simpa using this.mp (by simp)
  exact List.mem_range.mp hm
theorem getD_opt (xs : Array Nat) (i : Nat) : xs.getD i 0 = (xs[i]?).getD 0 := by
  by_cases h : i < xs.size
  · simp [Array.getD, h]
  · simp [Array.getD, h]
theorem kk_congr {xs ys : Array Nat} {i j : Nat} (h : xs[i]? = ys[j]?) : kk key xs i = kk key ys j := by unfold kk; rw [getD_opt, getD_opt, h]
theorem kk_bubble {xs : Array Nat} {src d : Nat} (hs : src < xs.size) (hd : d ≤ src) (k : Nat) :
    kk key (bubble xs src d) k = if k = src - d then kk key xs src else if src - d < k ∧ k ≤ src then kk key xs (k - 1) else kk key xs k := by
  have e := getElem?_bubble hs d hd k
  by_cases h1 : k = src - d
  · rw [if_pos h1] at e ⊢; exact kk_congr e
  · rw [if_neg h1] at e ⊢
    by_cases h2 : src - d < k ∧ k ≤ src
    · rw [if_pos h2] at e ⊢; exact kk_congr e
    · rw [if_neg h2] at e ⊢; exact kk_congr e
theorem kk_rev {xs : Array Nat} {i j : Nat} (hj : j ≤ xs.size) (k : Nat) : kk key (kas_rev xs i j) k = if i ≤ k ∧ k < j then kk key xs (i + j - 1 - k) else kk key xs k := by
  unfold kas_rev
  have e := getElem?_mirror_all (i := i) hj k
  by_cases h1 : i ≤ k ∧ k < j
  · rw [if_pos h1] at e ⊢; exact kk_congr e
  · rw [if_neg h1] at e ⊢; exact kk_congr e
theorem kk_rev_equal {xs : Array Nat} {i j : Nat} (hj : j ≤ xs.size) (heq : ∀ k, i ≤ k → k < j → kk key xs k = kk key xs (j - 1)) (k : Nat) : kk key (kas_rev xs i j) k = kk key xs k := by
  rw [kk_rev hj]
  split
  · rw [heq _ (by first | assumption | exact Nat.le_refl _ | exact Nat.le_of_lt (by assumption) | exact Nat.lt_of_lt_of_le (by assumption) (by assumption) | exact Nat.le_trans (by assumption) (by assumption) | exact Nat.lt_of_le_of_lt (by assumption) (by assumption) | exact Nat.lt_trans (by assumption) (by assumption) | exact Nat.le_succ_of_le (by assumption) | exact Nat.lt_succ_of_le (by assumption) | omega) (by first | assumption | exact Nat.le_refl _ | exact Nat.le_of_lt (by assumption) | exact Nat.lt_of_lt_of_le (by assumption) (by assumption) | exact Nat.le_trans (by assumption) (by assumption) | exact Nat.lt_of_le_of_lt (by assumption) (by assumption) | exact Nat.lt_trans (by assumption) (by assumption) | exact Nat.le_succ_of_le (by assumption) | exact Nat.lt_succ_of_le (by assumption) | omega), heq k (by first | assumption | exact Nat.le_refl _ | exact Nat.le_of_lt (by assumption) | exact Nat.lt_of_lt_of_le (by assumption) (by assumption) | exact Nat.le_trans (by assumption) (by assumption) | exact Nat.lt_of_le_of_lt (by assumption) (by assumption) | exact Nat.lt_trans (by assumption) (by assumption) | exact Nat.le_succ_of_le (by assumption) | exact Nat.lt_succ_of_le (by assumption) | omega) (by first | assumption | exact Nat.le_refl _ | exact Nat.le_of_lt (by assumption) | exact Nat.lt_of_lt_of_le (by assumption) (by assumption) | exact Nat.le_trans (by assumption) (by assumption) | exact Nat.lt_of_le_of_lt (by assumption) (by assumption) | exact Nat.lt_trans (by assumption) (by assumption) | exact Nat.le_succ_of_le (by assumption) | exact Nat.lt_succ_of_le (by assumption) | omega)]
  · rfl
theorem Pm.rev (h : Pm N p) (i j : Nat) : Pm N (kas_rev p i j) := (mirror_perm _ _ _ _).trans h
theorem Pm.bub (h : Pm N p) (i j : Nat) : Pm N (bubble p i j) := (bubble_perm _ _ _).trans h
/-- the questions are answered by the keys -/
noncomputable def Asks (N : Nat) (key : Nat → Int) (I : Shared → Prop) (cmp : Nat → Nat → (Bool → Shared → Prop) → Shared → Prop) : Prop :=
  ∀ i j C s, i < N → j < N → I s → (∀ s', I s' → C (decide (key i < key j)) s') → cmp i j C s
theorem asc_ok (hc : Asks N key I cmp) (hp : Pm N p) {nrem : Nat} (hn : nrem ≤ N) {Q : Nat → Shared → Prop} : ∀ (f a : Nat) (s : Shared), a + f = nrem → 1 ≤ a → SoT key p a → I s →
    (∀ m s', a ≤ m → m ≤ nrem → SoT key p m → (m = nrem ∨ kk key p m < kk key p (m - 1)) → I s' → Q m s') → (kas_asc p f a).kasWp cmp Q s
  | 0, a, s, e, _, hs, is, q => q a s (Nat.le_refl _) (by first | assumption | exact Nat.le_refl _ | exact Nat.le_of_lt (by assumption) | exact Nat.lt_of_lt_of_le (by assumption) (by assumption) | exact Nat.le_trans (by assumption) (by assumption) | exact Nat.lt_of_le_of_lt (by assumption) (by assumption) | exact Nat.lt_trans (by assumption) (by assumption) | exact Nat.le_succ_of_le (by assumption) | exact Nat.lt_succ_of_le (by assumption) | omega) hs (.inl (by first | assumption | exact Nat.le_refl _ | exact Nat.le_of_lt (by assumption) | exact Nat.lt_of_lt_of_le (by assumption) (by assumption) | exact Nat.le_trans (by assumption) (by assumption) | exact Nat.lt_of_le_of_lt (by assumption) (by assumption) | exact Nat.lt_trans (by assumption) (by assumption) | exact Nat.le_succ_of_le (by assumption) | exact Nat.lt_succ_of_le (by assumption) | omega)) is
  | f + 1, a, s, e, h1, hs, is, q => by
    show cmp (p.getD a 0) (p.getD (a - 1) 0) (fun b s' => (if b = true then KasT.ret a else kas_asc p f (a + 1)).kasWp cmp Q s') s
    refine hc _ _ _ _ (hp.lt (by first | assumption | exact Nat.le_refl _ | exact Nat.le_of_lt (by assumption) | exact Nat.lt_of_lt_of_le (by assumption) (by assumption) | exact Nat.le_trans (by assumption) (by assumption) | exact Nat.lt_of_le_of_lt (by assumption) (by assumption) | exact Nat.lt_trans (by assumption) (by assumption) | exact Nat.le_succ_of_le (by assumption) | exact Nat.lt_succ_of_le (by assumption) | omega)) (hp.lt (by first | assumption | exact Nat.le_refl _ | exact Nat.le_of_lt (by assumption) | exact Nat.lt_of_lt_of_le (by assumption) (by assumption) | exact Nat.le_trans (by assumption) (by assumption) | exact Nat.lt_of_le_of_lt (by assumption) (by assumption) | exact Nat.lt_trans (by assumption) (by assumption) | exact Nat.le_succ_of_le (by assumption) | exact Nat.lt_succ_of_le (by assumption) | omega)) is fun s' is' => ?_
    by_cases hless : kk key p a < kk key p (a - 1)
    · have : decide (key (p.getD a 0) < key (p.getD (a - 1) 0)) = true := decide_eq_true hless
      rw [this]
      exact q a s' (Nat.le_refl _) (by first | assumption | exact Nat.le_refl _ | exact Nat.le_of_lt (by assumption) | exact Nat.lt_of_lt_of_le (by assumption) (by assumption) | exact Nat.le_trans (by assumption) (by assumption) | exact Nat.lt_of_le_of_lt (by assumption) (by assumption) | exact Nat.lt_trans (by assumption) (by assumption) | exact Nat.le_succ_of_le (by assumption) | exact Nat.lt_succ_of_le (by assumption) | omega) hs (.inr hless) is'
    · have : decide (key (p.getD a 0) < key (p.getD (a - 1) 0)) = false := decide_eq_false hless
      rw [this]
      simp only [Bool.false_eq_true, if_false]
      refine asc_ok hc hp hn f (a + 1) s' (by first | assumption | exact Nat.le_refl _ | exact Nat.le_of_lt (by assumption) | exact Nat.lt_of_lt_of_le (by assumption) (by assumption) | exact Nat.le_trans (by assumption) (by assumption) | exact Nat.lt_of_le_of_lt (by assumption) (by assumption) | exact Nat.lt_trans (by assumption) (by assumption) | exact Nat.le_succ_of_le (by assumption) | exact Nat.lt_succ_of_le (by assumption) | omega) (by first | assumption | exact Nat.le_refl _ | exact Nat.le_of_lt (by assumption) | exact Nat.lt_of_lt_of_le (by assumption) (by assumption) | exact Nat.le_trans (by assumption) (by assumption) | exact Nat.lt_of_le_of_lt (by assumption) (by assumption) | exact Nat.lt_trans (by assumption) (by assumption) | exact Nat.le_succ_of_le (by assumption) | exact Nat.lt_succ_of_le (by assumption) | omega) (fun i j hij hj => ?_) is' fun m s'' m1 m2 m3 m4 m5 => q m s'' (by first | assumption | exact Nat.le_refl _ | exact Nat.le_of_lt (by assumption) | exact Nat.lt_of_lt_of_le (by assumption) (by assumption) | exact Nat.le_trans (by assumption) (by assumption) | exact Nat.lt_of_le_of_lt (by assumption) (by assumption) | exact Nat.lt_trans (by assumption) (by assumption) | exact Nat.le_succ_of_le (by assumption) | exact Nat.lt_succ_of_le (by assumption) | omega) m2 m3 m4 m5
      by_cases hjx : j < a
      · exact hs i j hij hjx
      · have hj' : j = a := by first | assumption | exact Nat.le_refl _ | exact Nat.le_of_lt (by assumption) | exact Nat.lt_of_lt_of_le (by assumption) (by assumption) | exact Nat.le_trans (by assumption) (by assumption) | exact Nat.lt_of_le_of_lt (by assumption) (by assumption) | exact Nat.lt_trans (by assumption) (by assumption) | exact Nat.le_succ_of_le (by assumption) | exact Nat.lt_succ_of_le (by assumption) | omega
        subst hj'
        by_cases hi' : i = j
        · subst hi'; exact Int.le_refl _
        · exact Int.le_trans (hs i (j - 1) (by first | assumption | exact Nat.le_refl _ | exact Nat.le_of_lt (by assumption) | exact Nat.lt_of_lt_of_le (by assumption) (by assumption) | exact Nat.le_trans (by assumption) (by assumption) | exact Nat.lt_of_le_of_lt (by assumption) (by assumption) | exact Nat.lt_trans (by assumption) (by assumption) | exact Nat.le_succ_of_le (by assumption) | exact Nat.lt_succ_of_le (by assumption) | omega) (by first | assumption | exact Nat.le_refl _ | exact Nat.le_of_lt (by assumption) | exact Nat.lt_of_lt_of_le (by assumption) (by assumption) | exact Nat.le_trans (by assumption) (by assumption) | exact Nat.lt_of_le_of_lt (by assumption) (by assumption) | exact Nat.lt_trans (by assumption) (by assumption) | exact Nat.le_succ_of_le (by assumption) | exact Nat.lt_succ_of_le (by assumption) | omega)) (Int.not_lt.mp hless)
theorem tail3_ok (hc : Asks N key I cmp) (hp : Pm N p) {n nrem : Nat} (hn : nrem ≤ N) (h1 : 1 ≤ n) (hnn : n ≤ nrem) (hs : NiT key p n) (is : I s) {Q : Nat × Array Nat → Shared → Prop}
    (h : ∀ m p' s', Pm N p' → 1 ≤ m → m ≤ nrem → SoT key p' m → I s' → Q (m, p') s') : (kas_tail3 n nrem p).kasWp cmp Q s := by
  unfold kas_tail3
  rw [KasT.kasWp_bind]
  have hsz : n ≤ p.size := by rw [hp.size]; omega
  refine asc_ok hc (hp.rev 0 n) hn (nrem - n) n s (by first | assumption | exact Nat.le_refl _ | exact Nat.le_of_lt (by assumption) | exact Nat.lt_of_lt_of_le (by assumption) (by assumption) | exact Nat.le_trans (by assumption) (by assumption) | exact Nat.lt_of_le_of_lt (by assumption) (by assumption) | exact Nat.lt_trans (by assumption) (by assumption) | exact Nat.le_succ_of_le (by assumption) | exact Nat.lt_succ_of_le (by assumption) | omega) h1 (fun i j hij hj => ?_) is fun m s' m1 m2 m3 _ m5 => h m _ s' (hp.rev 0 n) (by first | assumption | exact Nat.le_refl _ | exact Nat.le_of_lt (by assumption) | exact Nat.lt_of_lt_of_le (by assumption) (by assumption) | exact Nat.le_trans (by assumption) (by assumption) | exact Nat.lt_of_le_of_lt (by assumption) (by assumption) | exact Nat.lt_trans (by assumption) (by assumption) | exact Nat.le_succ_of_le (by assumption) | exact Nat.lt_succ_of_le (by assumption) | omega) m2 m3 m5
  rw [kk_rev hsz, kk_rev hsz, if_pos (by first | assumption | exact Nat.le_refl _ | exact Nat.le_of_lt (by assumption) | exact Nat.lt_of_lt_of_le (by assumption) (by assumption) | exact Nat.le_trans (by assumption) (by assumption) | exact Nat.lt_of_le_of_lt (by assumption) (by assumption) | exact Nat.lt_trans (by assumption) (by assumption) | exact Nat.le_succ_of_le (by assumption) | exact Nat.lt_succ_of_le (by assumption) | omega), if_pos (by first | assumption | exact Nat.le_refl _ | exact Nat.le_of_lt (by assumption) | exact Nat.lt_of_lt_of_le (by assumption) (by assumption) | exact Nat.le_trans (by assumption) (by assumption) | exact Nat.lt_of_le_of_lt (by assumption) (by assumption) | exact Nat.lt_trans (by assumption) (by assumption) | exact Nat.le_succ_of_le (by assumption) | exact Nat.lt_succ_of_le (by assumption) | omega)]
  exact hs _ _ (by first | assumption | exact Nat.le_refl _ | exact Nat.le_of_lt (by assumption) | exact Nat.lt_of_lt_of_le (by assumption) (by assumption) | exact Nat.le_trans (by assumption) (by assumption) | exact Nat.lt_of_le_of_lt (by assumption) (by assumption) | exact Nat.lt_trans (by assumption) (by assumption) | exact Nat.le_succ_of_le (by assumption) | exact Nat.lt_succ_of_le (by assumption) | omega) (by first | assumption | exact Nat.le_refl _ | exact Nat.le_of_lt (by assumption) | exact Nat.lt_of_lt_of_le (by assumption) (by assumption) | exact Nat.le_trans (by assumption) (by assumption) | exact Nat.lt_of_le_of_lt (by assumption) (by assumption) | exact Nat.lt_trans (by assumption) (by assumption) | exact Nat.le_succ_of_le (by assumption) | exact Nat.lt_succ_of_le (by assumption) | omega)
theorem desc_ok (hc : Asks N key I cmp) {nrem : Nat} (hn : nrem ≤ N) {Q : Array Nat × Nat × Nat → Shared → Prop} : ∀ (f x neq : Nat) (p : Array Nat) (s : Shared), Pm N p → x + f = nrem → 1 ≤ x → NiT key p x → neq + 1 ≤ x →
    (∀ i, x - (neq + 1) ≤ i → i < x → kk key p i = kk key p (x - 1)) → I s →
    (∀ m neq p' s', Pm N p' → x ≤ m → m ≤ nrem → NiT key p' m → neq + 1 ≤ m → (∀ i, m - (neq + 1) ≤ i → i < m → kk key p' i = kk key p' (m - 1)) → I s' → Q (p', m, neq) s') → (kas_desc f p x neq).kasWp cmp Q s
  | 0, x, neq, p, s, hp, e, _, hs, hq, he, is, q => q x neq p s hp (Nat.le_refl _) (by first | assumption | exact Nat.le_refl _ | exact Nat.le_of_lt (by assumption) | exact Nat.lt_of_lt_of_le (by assumption) (by assumption) | exact Nat.le_trans (by assumption) (by assumption) | exact Nat.lt_of_le_of_lt (by assumption) (by assumption) | exact Nat.lt_trans (by assumption) (by assumption) | exact Nat.le_succ_of_le (by assumption) | exact Nat.lt_succ_of_le (by assumption) | omega) hs hq he is
  | f + 1, x, neq, p, s, hp, e, h1, hs, hq, he, is, q => by
    have hsz : x ≤ p.size := by rw [hp.size]; omega
    show cmp (p.getD x 0) (p.getD (x - 1) 0) (fun b s' => (if b = true then (if neq > 0 then kas_desc f (kas_rev p (x - (neq + 1)) x) (x + 1) 0 else kas_desc f p (x + 1) 0) else KasT.ask (p.getD (x - 1) 0) (p.getD x 0) fun d => if d = true then .ret (p, x, neq) else kas_desc f p (x + 1) (neq + 1)).kasWp cmp Q s') s
    refine hc _ _ _ _ (hp.lt (by first | assumption | exact Nat.le_refl _ | exact Nat.le_of_lt (by assumption) | exact Nat.lt_of_lt_of_le (by assumption) (by assumption) | exact Nat.le_trans (by assumption) (by assumption) | exact Nat.lt_of_le_of_lt (by assumption) (by assumption) | exact Nat.lt_trans (by assumption) (by assumption) | exact Nat.le_succ_of_le (by assumption) | exact Nat.lt_succ_of_le (by assumption) | omega)) (hp.lt (by first | assumption | exact Nat.le_refl _ | exact Nat.le_of_lt (by assumption) | exact Nat.lt_of_lt_of_le (by assumption) (by assumption) | exact Nat.le_trans (by assumption) (by assumption) | exact Nat.lt_of_le_of_lt (by assumption) (by assumption) | exact Nat.lt_trans (by assumption) (by assumption) | exact Nat.le_succ_of_le (by assumption) | exact Nat.lt_succ_of_le (by assumption) | omega)) is fun s' is' => ?_
    by_cases hless : kk key p x < kk key p (x - 1)
    · have : decide (key (p.getD x 0) < key (p.getD (x - 1) 0)) = true := decide_eq_true hless
      rw [this]
      simp only [if_true]
      have step1 : ∀ xs : Array Nat, (∀ k, kk key xs k = kk key p k) → NiT key xs (x + 1) := by
        intro xs hk i j hij hj
        rw [hk, hk]
        by_cases hjx : j < x
        · exact hs i j hij hjx
        · have hj' : j = x := by first | assumption | exact Nat.le_refl _ | exact Nat.le_of_lt (by assumption) | exact Nat.lt_of_lt_of_le (by assumption) (by assumption) | exact Nat.le_trans (by assumption) (by assumption) | exact Nat.lt_of_le_of_lt (by assumption) (by assumption) | exact Nat.lt_trans (by assumption) (by assumption) | exact Nat.le_succ_of_le (by assumption) | exact Nat.lt_succ_of_le (by assumption) | omega
          subst hj'
          by_cases hi' : i = j
          · subst hi'; exact Int.le_refl _
          · exact Int.le_trans (Int.le_of_lt hless) (hs i (j - 1) (by first | assumption | exact Nat.le_refl _ | exact Nat.le_of_lt (by assumption) | exact Nat.lt_of_lt_of_le (by assumption) (by assumption) | exact Nat.le_trans (by assumption) (by assumption) | exact Nat.lt_of_le_of_lt (by assumption) (by assumption) | exact Nat.lt_trans (by assumption) (by assumption) | exact Nat.le_succ_of_le (by assumption) | exact Nat.lt_succ_of_le (by assumption) | omega) (by first | assumption | exact Nat.le_refl _ | exact Nat.le_of_lt (by assumption) | exact Nat.lt_of_lt_of_le (by assumption) (by assumption) | exact Nat.le_trans (by assumption) (by assumption) | exact Nat.lt_of_le_of_lt (by assumption) (by assumption) | exact Nat.lt_trans (by assumption) (by assumption) | exact Nat.le_succ_of_le (by assumption) | exact Nat.lt_succ_of_le (by assumption) | omega))
      by_cases hneq : neq > 0
      · rw [if_pos hneq]
        exact desc_ok hc hn f (x + 1) 0 _ s' (hp.rev _ _) (by first | assumption | exact Nat.le_refl _ | exact Nat.le_of_lt (by assumption) | exact Nat.lt_of_lt_of_le (by assumption) (by assumption) | exact Nat.le_trans (by assumption) (by assumption) | exact Nat.lt_of_le_of_lt (by assumption) (by assumption) | exact Nat.lt_trans (by assumption) (by assumption) | exact Nat.le_succ_of_le (by assumption) | exact Nat.lt_succ_of_le (by assumption) | omega) (by first | assumption | exact Nat.le_refl _ | exact Nat.le_of_lt (by assumption) | exact Nat.lt_of_lt_of_le (by assumption) (by assumption) | exact Nat.le_trans (by assumption) (by assumption) | exact Nat.lt_of_le_of_lt (by assumption) (by assumption) | exact Nat.lt_trans (by assumption) (by assumption) | exact Nat.le_succ_of_le (by assumption) | exact Nat.lt_succ_of_le (by assumption) | omega) (step1 _ (kk_rev_equal hsz he)) (by first | assumption | exact Nat.le_refl _ | exact Nat.le_of_lt (by assumption) | exact Nat.lt_of_lt_of_le (by assumption) (by assumption) | exact Nat.le_trans (by assumption) (by assumption) | exact Nat.lt_of_le_of_lt (by assumption) (by assumption) | exact Nat.lt_trans (by assumption) (by assumption) | exact Nat.le_succ_of_le (by assumption) | exact Nat.lt_succ_of_le (by assumption) | omega) (fun i a b => by congr 1; omega) is' fun m neq p' s'' a b c d e' f' g => q m neq p' s'' a (by first | assumption | exact Nat.le_refl _ | exact Nat.le_of_lt (by assumption) | exact Nat.lt_of_lt_of_le (by assumption) (by assumption) | exact Nat.le_trans (by assumption) (by assumption) | exact Nat.lt_of_le_of_lt (by assumption) (by assumption) | exact Nat.lt_trans (by assumption) (by assumption) | exact Nat.le_succ_of_le (by assumption) | exact Nat.lt_succ_of_le (by assumption) | omega) c d e' f' g
      · rw [if_neg hneq]
        exact desc_ok hc hn f (x + 1) 0 _ s' hp (by first | assumption | exact Nat.le_refl _ | exact Nat.le_of_lt (by assumption) | exact Nat.lt_of_lt_of_le (by assumption) (by assumption) | exact Nat.le_trans (by assumption) (by assumption) | exact Nat.lt_of_le_of_lt (by assumption) (by assumption) | exact Nat.lt_trans (by assumption) (by assumption) | exact Nat.le_succ_of_le (by assumption) | exact Nat.lt_succ_of_le (by assumption) | omega) (by first | assumption | exact Nat.le_refl _ | exact Nat.le_of_lt (by assumption) | exact Nat.lt_of_lt_of_le (by assumption) (by assumption) | exact Nat.le_trans (by assumption) (by assumption) | exact Nat.lt_of_le_of_lt (by assumption) (by assumption) | exact Nat.lt_trans (by assumption) (by assumption) | exact Nat.le_succ_of_le (by assumption) | exact Nat.lt_succ_of_le (by assumption) | omega) (step1 _ (fun _ => rfl)) (by first | assumption | exact Nat.le_refl _ | exact Nat.le_of_lt (by assumption) | exact Nat.lt_of_lt_of_le (by assumption) (by assumption) | exact Nat.le_trans (by assumption) (by assumption) | exact Nat.lt_of_le_of_lt (by assumption) (by assumption) | exact Nat.lt_trans (by assumption) (by assumption) | exact Nat.le_succ_of_le (by assumption) | exact Nat.lt_succ_of_le (by assumption) | omega) (fun i a b => by congr 1; omega) is' fun m neq p' s'' a b c d e' f' g => q m neq p' s'' a (by first | assumption | exact Nat.le_refl _ | exact Nat.le_of_lt (by assumption) | exact Nat.lt_of_lt_of_le (by assumption) (by assumption) | exact Nat.le_trans (by assumption) (by assumption) | exact Nat.lt_of_le_of_lt (by assumption) (by assumption) | exact Nat.lt_trans (by assumption) (by assumption) | exact Nat.le_succ_of_le (by assumption) | exact Nat.lt_succ_of_le (by assumption) | omega) c d e' f' g
    · have : decide (key (p.getD x 0) < key (p.getD (x - 1) 0)) = false := decide_eq_false hless
      rw [this]
      simp only [Bool.false_eq_true, if_false]
      show cmp (p.getD (x - 1) 0) (p.getD x 0) (fun d s'' => (if d = true then KasT.ret (p, x, neq) else kas_desc f p (x + 1) (neq + 1)).kasWp cmp Q s'') s'
      refine hc _ _ _ _ (hp.lt (by first | assumption | exact Nat.le_refl _ | exact Nat.le_of_lt (by assumption) | exact Nat.lt_of_lt_of_le (by assumption) (by assumption) | exact Nat.le_trans (by assumption) (by assumption) | exact Nat.lt_of_le_of_lt (by assumption) (by assumption) | exact Nat.lt_trans (by assumption) (by assumption) | exact Nat.le_succ_of_le (by assumption) | exact Nat.lt_succ_of_le (by assumption) | omega)) (hp.lt (by first | assumption | exact Nat.le_refl _ | exact Nat.le_of_lt (by assumption) | exact Nat.lt_of_lt_of_le (by assumption) (by assumption) | exact Nat.le_trans (by assumption) (by assumption) | exact Nat.lt_of_le_of_lt (by assumption) (by assumption) | exact Nat.lt_trans (by assumption) (by assumption) | exact Nat.le_succ_of_le (by assumption) | exact Nat.lt_succ_of_le (by assumption) | omega)) is' fun s'' is'' => ?_
      by_cases hlarger : kk key p (x - 1) < kk key p x
      · have : decide (key (p.getD (x - 1) 0) < key (p.getD x 0)) = true := decide_eq_true hlarger
        rw [this]
        exact q x neq p s'' hp (Nat.le_refl _) (by first | assumption | exact Nat.le_refl _ | exact Nat.le_of_lt (by assumption) | exact Nat.lt_of_lt_of_le (by assumption) (by assumption) | exact Nat.le_trans (by assumption) (by assumption) | exact Nat.lt_of_le_of_lt (by assumption) (by assumption) | exact Nat.lt_trans (by assumption) (by assumption) | exact Nat.le_succ_of_le (by assumption) | exact Nat.lt_succ_of_le (by assumption) | omega) hs hq he is''
      · have : decide (key (p.getD (x - 1) 0) < key (p.getD x 0)) = false := decide_eq_false hlarger
        rw [this]
        simp only [Bool.false_eq_true, if_false]
        have heqx : kk key p x = kk key p (x - 1) := by first | assumption | exact Nat.le_refl _ | exact Nat.le_of_lt (by assumption) | exact Nat.lt_of_lt_of_le (by assumption) (by assumption) | exact Nat.le_trans (by assumption) (by assumption) | exact Nat.lt_of_le_of_lt (by assumption) (by assumption) | exact Nat.lt_trans (by assumption) (by assumption) | exact Nat.le_succ_of_le (by assumption) | exact Nat.lt_succ_of_le (by assumption) | omega
        refine desc_ok hc hn f (x + 1) (neq + 1) p s'' hp (by first | assumption | exact Nat.le_refl _ | exact Nat.le_of_lt (by assumption) | exact Nat.lt_of_lt_of_le (by assumption) (by assumption) | exact Nat.le_trans (by assumption) (by assumption) | exact Nat.lt_of_le_of_lt (by assumption) (by assumption) | exact Nat.lt_trans (by assumption) (by assumption) | exact Nat.le_succ_of_le (by assumption) | exact Nat.lt_succ_of_le (by assumption) | omega) (by first | assumption | exact Nat.le_refl _ | exact Nat.le_of_lt (by assumption) | exact Nat.lt_of_lt_of_le (by assumption) (by assumption) | exact Nat.le_trans (by assumption) (by assumption) | exact Nat.lt_of_le_of_lt (by assumption) (by assumption) | exact Nat.lt_trans (by assumption) (by assumption) | exact Nat.le_succ_of_le (by assumption) | exact Nat.lt_succ_of_le (by assumption) | omega) (fun i j hij hj => ?_) (by first | assumption | exact Nat.le_refl _ | exact Nat.le_of_lt (by assumption) | exact Nat.lt_of_lt_of_le (by assumption) (by assumption) | exact Nat.le_trans (by assumption) (by assumption) | exact Nat.lt_of_le_of_lt (by assumption) (by assumption) | exact Nat.lt_trans (by assumption) (by assumption) | exact Nat.le_succ_of_le (by assumption) | exact Nat.lt_succ_of_le (by assumption) | omega) (fun i a b => ?_) is'' fun m neq p' s'' a b c d e' f' g => q m neq p' s'' a (by first | assumption | exact Nat.le_refl _ | exact Nat.le_of_lt (by assumption) | exact Nat.lt_of_lt_of_le (by assumption) (by assumption) | exact Nat.le_trans (by assumption) (by assumption) | exact Nat.lt_of_le_of_lt (by assumption) (by assumption) | exact Nat.lt_trans (by assumption) (by assumption) | exact Nat.le_succ_of_le (by assumption) | exact Nat.lt_succ_of_le (by assumption) | omega) c d e' f' g
        · by_cases hjx : j < x
          · exact hs i j hij hjx
          · have hj' : j = x := by first | assumption | exact Nat.le_refl _ | exact Nat.le_of_lt (by assumption) | exact Nat.lt_of_lt_of_le (by assumption) (by assumption) | exact Nat.le_trans (by assumption) (by assumption) | exact Nat.lt_of_le_of_lt (by assumption) (by assumption) | exact Nat.lt_trans (by assumption) (by assumption) | exact Nat.le_succ_of_le (by assumption) | exact Nat.lt_succ_of_le (by assumption) | omega
            subst hj'
            by_cases hi' : i = j
            · subst hi'; exact Int.le_refl _
            · rw [heqx]; exact hs i (j - 1) (by first | assumption | exact Nat.le_refl _ | exact Nat.le_of_lt (by assumption) | exact Nat.lt_of_lt_of_le (by assumption) (by assumption) | exact Nat.le_trans (by assumption) (by assumption) | exact Nat.lt_of_le_of_lt (by assumption) (by assumption) | exact Nat.lt_trans (by assumption) (by assumption) | exact Nat.le_succ_of_le (by assumption) | exact Nat.lt_succ_of_le (by assumption) | omega) (by first | assumption | exact Nat.le_refl _ | exact Nat.le_of_lt (by assumption) | exact Nat.lt_of_lt_of_le (by assumption) (by assumption) | exact Nat.le_trans (by assumption) (by assumption) | exact Nat.lt_of_le_of_lt (by assumption) (by assumption) | exact Nat.lt_trans (by assumption) (by assumption) | exact Nat.le_succ_of_le (by assumption) | exact Nat.lt_succ_of_le (by assumption) | omega)
        · rw [show x + 1 - 1 = x by first | assumption | exact Nat.le_refl _ | exact Nat.le_of_lt (by assumption) | exact Nat.lt_of_lt_of_le (by assumption) (by assumption) | exact Nat.le_trans (by assumption) (by assumption) | exact Nat.lt_of_le_of_lt (by assumption) (by assumption) | exact Nat.lt_trans (by assumption) (by assumption) | exact Nat.le_succ_of_le (by assumption) | exact Nat.lt_succ_of_le (by assumption) | omega]
          by_cases hix : i = x
          · subst hix; rfl
          · rw [heqx]; exact he i (by first | assumption | exact Nat.le_refl _ | exact Nat.le_of_lt (by assumption) | exact Nat.lt_of_lt_of_le (by assumption) (by assumption) | exact Nat.le_trans (by assumption) (by assumption) | exact Nat.lt_of_le_of_lt (by assumption) (by assumption) | exact Nat.lt_trans (by assumption) (by assumption) | exact Nat.le_succ_of_le (by assumption) | exact Nat.lt_succ_of_le (by assumption) | omega) (by first | assumption | exact Nat.le_refl _ | exact Nat.le_of_lt (by assumption) | exact Nat.lt_of_lt_of_le (by assumption) (by assumption) | exact Nat.le_trans (by assumption) (by assumption) | exact Nat.lt_of_le_of_lt (by assumption) (by assumption) | exact Nat.lt_trans (by assumption) (by assumption) | exact Nat.le_succ_of_le (by assumption) | exact Nat.lt_succ_of_le (by assumption) | omega)
theorem descPart_ok (hc : Asks N key I cmp) (hp : Pm N p) {n nrem : Nat} (hn : nrem ≤ N) (hnn : n + 1 ≤ nrem) (hs : NiT key p (n + 1)) (is : I s) {Q : Nat × Array Nat → Shared → Prop}
    (h : ∀ m p' s', Pm N p' → 1 ≤ m → m ≤ nrem → SoT key p' m → I s' → Q (m, p') s') : (kas_descPart n nrem p).kasWp cmp Q s := by
  unfold kas_descPart
  rw [KasT.kasWp_bind]
  refine desc_ok hc hn (nrem - (n + 1)) (n + 1) 0 p s hp (by first | assumption | exact Nat.le_refl _ | exact Nat.le_of_lt (by assumption) | exact Nat.lt_of_lt_of_le (by assumption) (by assumption) | exact Nat.le_trans (by assumption) (by assumption) | exact Nat.lt_of_le_of_lt (by assumption) (by assumption) | exact Nat.lt_trans (by assumption) (by assumption) | exact Nat.le_succ_of_le (by assumption) | exact Nat.lt_succ_of_le (by assumption) | omega) (by first | assumption | exact Nat.le_refl _ | exact Nat.le_of_lt (by assumption) | exact Nat.lt_of_lt_of_le (by assumption) (by assumption) | exact Nat.le_trans (by assumption) (by assumption) | exact Nat.lt_of_le_of_lt (by assumption) (by assumption) | exact Nat.lt_trans (by assumption) (by assumption) | exact Nat.le_succ_of_le (by assumption) | exact Nat.lt_succ_of_le (by assumption) | omega) hs (by first | assumption | exact Nat.le_refl _ | exact Nat.le_of_lt (by assumption) | exact Nat.lt_of_lt_of_le (by assumption) (by assumption) | exact Nat.le_trans (by assumption) (by assumption) | exact Nat.lt_of_le_of_lt (by assumption) (by assumption) | exact Nat.lt_trans (by assumption) (by assumption) | exact Nat.le_succ_of_le (by assumption) | exact Nat.lt_succ_of_le (by assumption) | omega) (fun i a b => by congr 1; omega) is fun m neq p' s' hp' m1 m2 m3 m4 m5 is' => ?_
  dsimp only
  have hsz : m ≤ p'.size := by rw [hp'.size]; omega
  by_cases hneq : neq > 0
  · rw [if_pos hneq]
    refine tail3_ok hc (hp'.rev _ _) hn (by first | assumption | exact Nat.le_refl _ | exact Nat.le_of_lt (by assumption) | exact Nat.lt_of_lt_of_le (by assumption) (by assumption) | exact Nat.le_trans (by assumption) (by assumption) | exact Nat.lt_of_le_of_lt (by assumption) (by assumption) | exact Nat.lt_trans (by assumption) (by assumption) | exact Nat.le_succ_of_le (by assumption) | exact Nat.lt_succ_of_le (by assumption) | omega) m2 (fun i j hij hj => ?_) is' h
    rw [kk_rev_equal hsz m5, kk_rev_equal hsz m5]
    exact m3 i j hij hj
  · rw [if_neg hneq]
    exact tail3_ok hc hp' hn (by first | assumption | exact Nat.le_refl _ | exact Nat.le_of_lt (by assumption) | exact Nat.lt_of_lt_of_le (by assumption) (by assumption) | exact Nat.le_trans (by assumption) (by assumption) | exact Nat.lt_of_le_of_lt (by assumption) (by assumption) | exact Nat.lt_trans (by assumption) (by assumption) | exact Nat.le_succ_of_le (by assumption) | exact Nat.lt_succ_of_le (by assumption) | omega) m2 m3 is' h
theorem so1 {i j : Nat} (hij : i ≤ j) (hj : j < 1) : kk key p i ≤ kk key p j := by
  have : i = j := by first | assumption | exact Nat.le_refl _ | exact Nat.le_of_lt (by assumption) | exact Nat.lt_of_lt_of_le (by assumption) (by assumption) | exact Nat.le_trans (by assumption) (by assumption) | exact Nat.lt_of_le_of_lt (by assumption) (by assumption) | exact Nat.lt_trans (by assumption) (by assumption) | exact Nat.le_succ_of_le (by assumption) | exact Nat.lt_succ_of_le (by assumption) | omega
  subst this
  exact Int.le_refl _
theorem count_ok (hc : Asks N key I cmp) (hp : Pm N p) {nrem : Nat} (hn : nrem ≤ N) (h1 : 1 ≤ nrem) (is : I s) {Q : Nat × Array Nat → Shared → Prop}
    (h : ∀ m p' s', Pm N p' → 1 ≤ m → m ≤ nrem → SoT key p' m → I s' → Q (m, p') s') : (kas_count nrem p).kasWp cmp Q s := by
  unfold kas_count
  rw [KasT.kasWp_bind]
  refine asc_ok hc hp hn (nrem - 1) 1 s (by first | assumption | exact Nat.le_refl _ | exact Nat.le_of_lt (by assumption) | exact Nat.lt_of_lt_of_le (by assumption) (by assumption) | exact Nat.le_trans (by assumption) (by assumption) | exact Nat.lt_of_le_of_lt (by assumption) (by assumption) | exact Nat.lt_trans (by assumption) (by assumption) | exact Nat.le_succ_of_le (by assumption) | exact Nat.lt_succ_of_le (by assumption) | omega) (Nat.le_refl _) (fun i j hij hj => (so1 hij hj)) is fun n s' hn1 hn2 hsn hor is' => ?_
  by_cases hnn : n = nrem
  · rw [if_pos (by simpa using hnn)]
    exact h n p s' hp hn1 hn2 hsn is'
  · rw [if_neg (by simpa using hnn)]
    have hlt : kk key p n < kk key p (n - 1) := hor.resolve_left hnn
    by_cases hgt : n > 1
    · rw [if_pos hgt]
      show cmp (p.getD 0 0) (p.getD (n - 1) 0) (fun c s'' => (if c = true then KasT.ret (n, p) else kas_descPart n nrem (kas_rev p 0 n)).kasWp cmp Q s'') s'
      refine hc _ _ _ _ (hp.lt (by first | assumption | exact Nat.le_refl _ | exact Nat.le_of_lt (by assumption) | exact Nat.lt_of_lt_of_le (by assumption) (by assumption) | exact Nat.le_trans (by assumption) (by assumption) | exact Nat.lt_of_le_of_lt (by assumption) (by assumption) | exact Nat.lt_trans (by assumption) (by assumption) | exact Nat.le_succ_of_le (by assumption) | exact Nat.lt_succ_of_le (by assumption) | omega)) (hp.lt (by first | assumption | exact Nat.le_refl _ | exact Nat.le_of_lt (by assumption) | exact Nat.lt_of_lt_of_le (by assumption) (by assumption) | exact Nat.le_trans (by assumption) (by assumption) | exact Nat.lt_of_le_of_lt (by assumption) (by assumption) | exact Nat.lt_trans (by assumption) (by assumption) | exact Nat.le_succ_of_le (by assumption) | exact Nat.lt_succ_of_le (by assumption) | omega)) is' fun s'' is'' => ?_
      by_cases hrose : kk key p 0 < kk key p (n - 1)
      · have : decide (key (p.getD 0 0) < key (p.getD (n - 1) 0)) = true := decide_eq_true hrose
        rw [this]
        exact h n p s'' hp hn1 hn2 hsn is''
      · have : decide (key (p.getD 0 0) < key (p.getD (n - 1) 0)) = false := decide_eq_false hrose
        rw [this]
        simp only [Bool.false_eq_true, if_false]
        have hsz : n ≤ p.size := by rw [hp.size]; omega
        have hall : ∀ k, 0 ≤ k → k < n → kk key p k = kk key p (n - 1) := by
          intro k _ hk
          have a1 := hsn 0 k (by first | assumption | exact Nat.le_refl _ | exact Nat.le_of_lt (by assumption) | exact Nat.lt_of_lt_of_le (by assumption) (by assumption) | exact Nat.le_trans (by assumption) (by assumption) | exact Nat.lt_of_le_of_lt (by assumption) (by assumption) | exact Nat.lt_trans (by assumption) (by assumption) | exact Nat.le_succ_of_le (by assumption) | exact Nat.lt_succ_of_le (by assumption) | omega) hk
          have a2 := hsn k (n - 1) (by first | assumption | exact Nat.le_refl _ | exact Nat.le_of_lt (by assumption) | exact Nat.lt_of_lt_of_le (by assumption) (by assumption) | exact Nat.le_trans (by assumption) (by assumption) | exact Nat.lt_of_le_of_lt (by assumption) (by assumption) | exact Nat.lt_trans (by assumption) (by assumption) | exact Nat.le_succ_of_le (by assumption) | exact Nat.lt_succ_of_le (by assumption) | omega) (by first | assumption | exact Nat.le_refl _ | exact Nat.le_of_lt (by assumption) | exact Nat.lt_of_lt_of_le (by assumption) (by assumption) | exact Nat.le_trans (by assumption) (by assumption) | exact Nat.lt_of_le_of_lt (by assumption) (by assumption) | exact Nat.lt_trans (by assumption) (by assumption) | exact Nat.le_succ_of_le (by assumption) | exact Nat.lt_succ_of_le (by assumption) | omega)
          omega
        refine descPart_ok hc (hp.rev _ _) hn (by first | assumption | exact Nat.le_refl _ | exact Nat.le_of_lt (by assumption) | exact Nat.lt_of_lt_of_le (by assumption) (by assumption) | exact Nat.le_trans (by assumption) (by assumption) | exact Nat.lt_of_le_of_lt (by assumption) (by assumption) | exact Nat.lt_trans (by assumption) (by assumption) | exact Nat.le_succ_of_le (by assumption) | exact Nat.lt_succ_of_le (by assumption) | omega) (fun i j hij hj => ?_) is'' h
        rw [kk_rev_equal hsz hall, kk_rev_equal hsz hall]
        by_cases hjn : j < n
        · rw [hall i (by first | assumption | exact Nat.le_refl _ | exact Nat.le_of_lt (by assumption) | exact Nat.lt_of_lt_of_le (by assumption) (by assumption) | exact Nat.le_trans (by assumption) (by assumption) | exact Nat.lt_of_le_of_lt (by assumption) (by assumption) | exact Nat.lt_trans (by assumption) (by assumption) | exact Nat.le_succ_of_le (by assumption) | exact Nat.lt_succ_of_le (by assumption) | omega) (by first | assumption | exact Nat.le_refl _ | exact Nat.le_of_lt (by assumption) | exact Nat.lt_of_lt_of_le (by assumption) (by assumption) | exact Nat.le_trans (by assumption) (by assumption) | exact Nat.lt_of_le_of_lt (by assumption) (by assumption) | exact Nat.lt_trans (by assumption) (by assumption) | exact Nat.le_succ_of_le (by assumption) | exact Nat.lt_succ_of_le (by assumption) | omega), hall j (by first | assumption | exact Nat.le_refl _ | exact Nat.le_of_lt (by assumption) | exact Nat.lt_of_lt_of_le (by assumption) (by assumption) | exact Nat.le_trans (by assumption) (by assumption) | exact Nat.lt_of_le_of_lt (by assumption) (by assumption) | exact Nat.lt_trans (by assumption) (by assumption) | exact Nat.le_succ_of_le (by assumption) | exact Nat.lt_succ_of_le (by assumption) | omega) hjn]; exact Int.le_refl _
        · have hj' : j = n := by first | assumption | exact Nat.le_refl _ | exact Nat.le_of_lt (by assumption) | exact Nat.lt_of_lt_of_le (by assumption) (by assumption) | exact Nat.le_trans (by assumption) (by assumption) | exact Nat.lt_of_le_of_lt (by assumption) (by assumption) | exact Nat.lt_trans (by assumption) (by assumption) | exact Nat.le_succ_of_le (by assumption) | exact Nat.lt_succ_of_le (by assumption) | omega
          subst hj'
          by_cases hi' : i = j
          · subst hi'; exact Int.le_refl _
          · rw [hall i (by first | assumption | exact Nat.le_refl _ | exact Nat.le_of_lt (by assumption) | exact Nat.lt_of_lt_of_le (by assumption) (by assumption) | exact Nat.le_trans (by assumption) (by assumption) | exact Nat.lt_of_le_of_lt (by assumption) (by assumption) | exact Nat.lt_trans (by assumption) (by assumption) | exact Nat.le_succ_of_le (by assumption) | exact Nat.lt_succ_of_le (by assumption) | omega) (by first | assumption | exact Nat.le_refl _ | exact Nat.le_of_lt (by assumption) | exact Nat.lt_of_lt_of_le (by assumption) (by assumption) | exact Nat.le_trans (by assumption) (by assumption) | exact Nat.lt_of_le_of_lt (by assumption) (by assumption) | exact Nat.lt_trans (by assumption) (by assumption) | exact Nat.le_succ_of_le (by assumption) | exact Nat.lt_succ_of_le (by assumption) | omega)]; exact Int.le_of_lt hlt
    · rw [if_neg hgt]
      have hn1' : n = 1 := by first | assumption | exact Nat.le_refl _ | exact Nat.le_of_lt (by assumption) | exact Nat.lt_of_lt_of_le (by assumption) (by assumption) | exact Nat.le_trans (by assumption) (by assumption) | exact Nat.lt_of_le_of_lt (by assumption) (by assumption) | exact Nat.lt_trans (by assumption) (by assumption) | exact Nat.le_succ_of_le (by assumption) | exact Nat.lt_succ_of_le (by assumption) | omega
      subst hn1'
      refine descPart_ok hc hp hn (by first | assumption | exact Nat.le_refl _ | exact Nat.le_of_lt (by assumption) | exact Nat.lt_of_lt_of_le (by assumption) (by assumption) | exact Nat.le_trans (by assumption) (by assumption) | exact Nat.lt_of_le_of_lt (by assumption) (by assumption) | exact Nat.lt_trans (by assumption) (by assumption) | exact Nat.le_succ_of_le (by assumption) | exact Nat.lt_succ_of_le (by assumption) | omega) (fun i j hij hj => ?_) is' h
      by_cases hi' : i = j
      · subst hi'; exact Int.le_refl _
      · have hi0 : i = 0 := by first | assumption | exact Nat.le_refl _ | exact Nat.le_of_lt (by assumption) | exact Nat.lt_of_lt_of_le (by assumption) (by assumption) | exact Nat.le_trans (by assumption) (by assumption) | exact Nat.lt_of_le_of_lt (by assumption) (by assumption) | exact Nat.lt_trans (by assumption) (by assumption) | exact Nat.le_succ_of_le (by assumption) | exact Nat.lt_succ_of_le (by assumption) | omega
        have hj1 : j = 1 := by first | assumption | exact Nat.le_refl _ | exact Nat.le_of_lt (by assumption) | exact Nat.lt_of_lt_of_le (by assumption) (by assumption) | exact Nat.le_trans (by assumption) (by assumption) | exact Nat.lt_of_le_of_lt (by assumption) (by assumption) | exact Nat.lt_trans (by assumption) (by assumption) | exact Nat.le_succ_of_le (by assumption) | exact Nat.lt_succ_of_le (by assumption) | omega
        subst hi0; subst hj1
        exact Int.le_of_lt hlt
theorem place_ok (hc : Asks N key I cmp) (hp : Pm N p) {k : Nat} (hk : k < N) (hs : SoT key p k) {Q : Nat → Shared → Prop} : ∀ (f l r : Nat) (s : Shared), l ≤ r → r ≤ k → r - l ≤ f →
    (∀ i, i < l → kk key p i ≤ kk key p k) → (∀ i, r ≤ i → i < k → kk key p k < kk key p i) → I s →
    (∀ l s', l ≤ k → (∀ i, i < l → kk key p i ≤ kk key p k) → (∀ i, l ≤ i → i < k → kk key p k < kk key p i) → I s' → Q l s') → (kas_place p k f l r).kasWp cmp Q s
  | 0, l, r, s, hlr, hrk, hf, hlo, hhi, is, q => by
    have : l = r := by first | assumption | exact Nat.le_refl _ | exact Nat.le_of_lt (by assumption) | exact Nat.lt_of_lt_of_le (by assumption) (by assumption) | exact Nat.le_trans (by assumption) (by assumption) | exact Nat.lt_of_le_of_lt (by assumption) (by assumption) | exact Nat.lt_trans (by assumption) (by assumption) | exact Nat.le_succ_of_le (by assumption) | exact Nat.lt_succ_of_le (by assumption) | omega
    subst this
    exact q l s hrk hlo hhi is
  | f + 1, l, r, s, hlr, hrk, hf, hlo, hhi, is, q => by
    unfold kas_place
    by_cases hge : l ≥ r
    · rw [if_pos hge]
      have : l = r := by first | assumption | exact Nat.le_refl _ | exact Nat.le_of_lt (by assumption) | exact Nat.lt_of_lt_of_le (by assumption) (by assumption) | exact Nat.le_trans (by assumption) (by assumption) | exact Nat.lt_of_le_of_lt (by assumption) (by assumption) | exact Nat.lt_trans (by assumption) (by assumption) | exact Nat.le_succ_of_le (by assumption) | exact Nat.lt_succ_of_le (by assumption) | omega
      subst this
      exact q l s hrk hlo hhi is
    · rw [if_neg hge]
      show cmp (p.getD k 0) (p.getD ((l + r) / 2) 0) (fun c s'' => (if c = true then kas_place p k f l ((l + r) / 2) else kas_place p k f ((l + r) / 2 + 1) r).kasWp cmp Q s'') s
      refine hc _ _ _ _ (hp.lt hk) (hp.lt (by first | assumption | exact Nat.le_refl _ | exact Nat.le_of_lt (by assumption) | exact Nat.lt_of_lt_of_le (by assumption) (by assumption) | exact Nat.le_trans (by assumption) (by assumption) | exact Nat.lt_of_le_of_lt (by assumption) (by assumption) | exact Nat.lt_trans (by assumption) (by assumption) | exact Nat.le_succ_of_le (by assumption) | exact Nat.lt_succ_of_le (by assumption) | omega)) is fun s'' is'' => ?_
      by_cases hless : kk key p k < kk key p ((l + r) / 2)
      · have : decide (key (p.getD k 0) < key (p.getD ((l + r) / 2) 0)) = true := decide_eq_true hless
        rw [this]
        simp only [if_true]
        exact place_ok hc hp hk hs f l _ s'' (by first | assumption | exact Nat.le_refl _ | exact Nat.le_of_lt (by assumption) | exact Nat.lt_of_lt_of_le (by assumption) (by assumption) | exact Nat.le_trans (by assumption) (by assumption) | exact Nat.lt_of_le_of_lt (by assumption) (by assumption) | exact Nat.lt_trans (by assumption) (by assumption) | exact Nat.le_succ_of_le (by assumption) | exact Nat.lt_succ_of_le (by assumption) | omega) (by first | assumption | exact Nat.le_refl _ | exact Nat.le_of_lt (by assumption) | exact Nat.lt_of_lt_of_le (by assumption) (by assumption) | exact Nat.le_trans (by assumption) (by assumption) | exact Nat.lt_of_le_of_lt (by assumption) (by assumption) | exact Nat.lt_trans (by assumption) (by assumption) | exact Nat.le_succ_of_le (by assumption) | exact Nat.lt_succ_of_le (by assumption) | omega) (by first | assumption | exact Nat.le_refl _ | exact Nat.le_of_lt (by assumption) | exact Nat.lt_of_lt_of_le (by assumption) (by assumption) | exact Nat.le_trans (by assumption) (by assumption) | exact Nat.lt_of_le_of_lt (by assumption) (by assumption) | exact Nat.lt_trans (by assumption) (by assumption) | exact Nat.le_succ_of_le (by assumption) | exact Nat.lt_succ_of_le (by assumption) | omega) hlo (fun i h1 h2 => Int.lt_of_lt_of_le hless (hs _ _ h1 h2)) is'' q
      · have : decide (key (p.getD k 0) < key (p.getD ((l + r) / 2) 0)) = false := decide_eq_false hless
        rw [this]
        simp only [Bool.false_eq_true, if_false]
        exact place_ok hc hp hk hs f _ r s'' (by first | assumption | exact Nat.le_refl _ | exact Nat.le_of_lt (by assumption) | exact Nat.lt_of_lt_of_le (by assumption) (by assumption) | exact Nat.le_trans (by assumption) (by assumption) | exact Nat.lt_of_le_of_lt (by assumption) (by assumption) | exact Nat.lt_trans (by assumption) (by assumption) | exact Nat.le_succ_of_le (by assumption) | exact Nat.lt_succ_of_le (by assumption) | omega) (by first | assumption | exact Nat.le_refl _ | exact Nat.le_of_lt (by assumption) | exact Nat.lt_of_lt_of_le (by assumption) (by assumption) | exact Nat.le_trans (by assumption) (by assumption) | exact Nat.lt_of_le_of_lt (by assumption) (by assumption) | exact Nat.lt_trans (by assumption) (by assumption) | exact Nat.le_succ_of_le (by assumption) | exact Nat.lt_succ_of_le (by assumption) | omega) (by first | assumption | exact Nat.le_refl _ | exact Nat.le_of_lt (by assumption) | exact Nat.lt_of_lt_of_le (by assumption) (by assumption) | exact Nat.le_trans (by assumption) (by assumption) | exact Nat.lt_of_le_of_lt (by assumption) (by assumption) | exact Nat.lt_trans (by assumption) (by assumption) | exact Nat.le_succ_of_le (by assumption) | exact Nat.lt_succ_of_le (by assumption) | omega) (fun i h1 => Int.le_trans (hs i ((l + r) / 2) (by first | assumption | exact Nat.le_refl _ | exact Nat.le_of_lt (by assumption) | exact Nat.lt_of_lt_of_le (by assumption) (by assumption) | exact Nat.le_trans (by assumption) (by assumption) | exact Nat.lt_of_le_of_lt (by assumption) (by assumption) | exact Nat.lt_trans (by assumption) (by assumption) | exact Nat.le_succ_of_le (by assumption) | exact Nat.lt_succ_of_le (by assumption) | omega) (by first | assumption | exact Nat.le_refl _ | exact Nat.le_of_lt (by assumption) | exact Nat.lt_of_lt_of_le (by assumption) (by assumption) | exact Nat.le_trans (by assumption) (by assumption) | exact Nat.lt_of_le_of_lt (by assumption) (by assumption) | exact Nat.lt_trans (by assumption) (by assumption) | exact Nat.le_succ_of_le (by assumption) | exact Nat.lt_succ_of_le (by assumption) | omega)) (Int.not_lt.mp hless)) hhi is'' q
theorem bin_ok (hc : Asks N key I cmp) {Q : Array Nat → Shared → Prop} : ∀ (f k : Nat) (p : Array Nat) (s : Shared), Pm N p → k + f = N → SoT key p k → I s → (∀ p' s', Pm N p' → SoT key p' N → I s' → Q p' s') → (kas_bin f p k).kasWp cmp Q s
  | 0, k, p, s, hp, e, hs, is, q => q p s hp (by have : k = N := by first | assumption | exact Nat.le_refl _ | exact Nat.le_of_lt (by assumption) | exact Nat.lt_of_lt_of_le (by assumption) (by assumption) | exact Nat.le_trans (by assumption) (by assumption) | exact Nat.lt_of_le_of_lt (by assumption) (by assumption) | exact Nat.lt_trans (by assumption) (by assumption) | exact Nat.le_succ_of_le (by assumption) | exact Nat.lt_succ_of_le (by assumption) | omega
                                                 rw [← this]; exact hs) is
  | f + 1, k, p, s, hp, e, hs, is, q => by
    rw [show kas_bin (f + 1) p k = (kas_place p k k 0 k).bind fun l => kas_bin f (bubble p k (k - l)) (k + 1) from rfl, KasT.kasWp_bind]
    refine place_ok hc hp (by first | assumption | exact Nat.le_refl _ | exact Nat.le_of_lt (by assumption) | exact Nat.lt_of_lt_of_le (by assumption) (by assumption) | exact Nat.le_trans (by assumption) (by assumption) | exact Nat.lt_of_le_of_lt (by assumption) (by assumption) | exact Nat.lt_trans (by assumption) (by assumption) | exact Nat.le_succ_of_le (by assumption) | exact Nat.lt_succ_of_le (by assumption) | omega) hs k 0 k s (by first | assumption | exact Nat.le_refl _ | exact Nat.le_of_lt (by assumption) | exact Nat.lt_of_lt_of_le (by assumption) (by assumption) | exact Nat.le_trans (by assumption) (by assumption) | exact Nat.lt_of_le_of_lt (by assumption) (by assumption) | exact Nat.lt_trans (by assumption) (by assumption) | exact Nat.le_succ_of_le (by assumption) | exact Nat.lt_succ_of_le (by assumption) | omega) (Nat.le_refl _) (by first | assumption | exact Nat.le_refl _ | exact Nat.le_of_lt (by assumption) | exact Nat.lt_of_lt_of_le (by assumption) (by assumption) | exact Nat.le_trans (by assumption) (by assumption) | exact Nat.lt_of_le_of_lt (by assumption) (by assumption) | exact Nat.lt_trans (by assumption) (by assumption) | exact Nat.le_succ_of_le (by assumption) | exact Nat.lt_succ_of_le (by assumption) | omega) (fun i h => by first | assumption | exact Nat.le_refl _ | exact Nat.le_of_lt (by assumption) | exact Nat.lt_of_lt_of_le (by assumption) (by assumption) | exact Nat.le_trans (by assumption) (by assumption) | exact Nat.lt_of_le_of_lt (by assumption) (by assumption) | exact Nat.lt_trans (by assumption) (by assumption) | exact Nat.le_succ_of_le (by assumption) | exact Nat.lt_succ_of_le (by assumption) | omega) (fun i h1 h2 => by first | assumption | exact Nat.le_refl _ | exact Nat.le_of_lt (by assumption) | exact Nat.lt_of_lt_of_le (by assumption) (by assumption) | exact Nat.le_trans (by assumption) (by assumption) | exact Nat.lt_of_le_of_lt (by assumption) (by assumption) | exact Nat.lt_trans (by assumption) (by assumption) | exact Nat.le_succ_of_le (by assumption) | exact Nat.lt_succ_of_le (by assumption) | omega) is fun l s' hlk hlo hhi is' => ?_
    refine bin_ok hc f (k + 1) _ s' (hp.bub _ _) (by first | assumption | exact Nat.le_refl _ | exact Nat.le_of_lt (by assumption) | exact Nat.lt_of_lt_of_le (by assumption) (by assumption) | exact Nat.le_trans (by assumption) (by assumption) | exact Nat.lt_of_le_of_lt (by assumption) (by assumption) | exact Nat.lt_trans (by assumption) (by assumption) | exact Nat.le_succ_of_le (by assumption) | exact Nat.lt_succ_of_le (by assumption) | omega) (fun i j hij hj => ?_) is' q
    have hks : k < p.size := by rw [hp.size]; omega
    rw [kk_bubble hks (by first | assumption | exact Nat.le_refl _ | exact Nat.le_of_lt (by assumption) | exact Nat.lt_of_lt_of_le (by assumption) (by assumption) | exact Nat.le_trans (by assumption) (by assumption) | exact Nat.lt_of_le_of_lt (by assumption) (by assumption) | exact Nat.lt_trans (by assumption) (by assumption) | exact Nat.le_succ_of_le (by assumption) | exact Nat.lt_succ_of_le (by assumption) | omega), kk_bubble hks (by first | assumption | exact Nat.le_refl _ | exact Nat.le_of_lt (by assumption) | exact Nat.lt_of_lt_of_le (by assumption) (by assumption) | exact Nat.le_trans (by assumption) (by assumption) | exact Nat.lt_of_le_of_lt (by assumption) (by assumption) | exact Nat.lt_trans (by assumption) (by assumption) | exact Nat.le_succ_of_le (by assumption) | exact Nat.lt_succ_of_le (by assumption) | omega), show k - (k - l) = l by first | assumption | exact Nat.le_refl _ | exact Nat.le_of_lt (by assumption) | exact Nat.lt_of_lt_of_le (by assumption) (by assumption) | exact Nat.le_trans (by assumption) (by assumption) | exact Nat.lt_of_le_of_lt (by assumption) (by assumption) | exact Nat.lt_trans (by assumption) (by assumption) | exact Nat.le_succ_of_le (by assumption) | exact Nat.lt_succ_of_le (by assumption) | omega]
    repeat' split
    all_goals first
      | (exfalso; omega)
      | exact Int.le_refl _
      | exact hlo _ (by first | assumption | exact Nat.le_refl _ | exact Nat.le_of_lt (by assumption) | exact Nat.lt_of_lt_of_le (by assumption) (by assumption) | exact Nat.le_trans (by assumption) (by assumption) | exact Nat.lt_of_le_of_lt (by assumption) (by assumption) | exact Nat.lt_trans (by assumption) (by assumption) | exact Nat.le_succ_of_le (by assumption) | exact Nat.lt_succ_of_le (by assumption) | omega)
      | exact Int.le_of_lt (hhi _ (by first | assumption | exact Nat.le_refl _ | exact Nat.le_of_lt (by assumption) | exact Nat.lt_of_lt_of_le (by assumption) (by assumption) | exact Nat.le_trans (by assumption) (by assumption) | exact Nat.lt_of_le_of_lt (by assumption) (by assumption) | exact Nat.lt_trans (by assumption) (by assumption) | exact Nat.le_succ_of_le (by assumption) | exact Nat.lt_succ_of_le (by assumption) | omega) (by first | assumption | exact Nat.le_refl _ | exact Nat.le_of_lt (by assumption) | exact Nat.lt_of_lt_of_le (by assumption) (by assumption) | exact Nat.le_trans (by assumption) (by assumption) | exact Nat.lt_of_le_of_lt (by assumption) (by assumption) | exact Nat.lt_trans (by assumption) (by assumption) | exact Nat.le_succ_of_le (by assumption) | exact Nat.lt_succ_of_le (by assumption) | omega))
      | exact hs _ _ (by first | assumption | exact Nat.le_refl _ | exact Nat.le_of_lt (by assumption) | exact Nat.lt_of_lt_of_le (by assumption) (by assumption) | exact Nat.le_trans (by assumption) (by assumption) | exact Nat.lt_of_le_of_lt (by assumption) (by assumption) | exact Nat.lt_trans (by assumption) (by assumption) | exact Nat.le_succ_of_le (by assumption) | exact Nat.lt_succ_of_le (by assumption) | omega) (by first | assumption | exact Nat.le_refl _ | exact Nat.le_of_lt (by assumption) | exact Nat.lt_of_lt_of_le (by assumption) (by assumption) | exact Nat.le_trans (by assumption) (by assumption) | exact Nat.lt_of_le_of_lt (by assumption) (by assumption) | exact Nat.lt_trans (by assumption) (by assumption) | exact Nat.le_succ_of_le (by assumption) | exact Nat.lt_succ_of_le (by assumption) | omega)
theorem sort_ok (hc : Asks N key I cmp) (h1 : 1 ≤ N) (is : I s) {Q : Array Nat → Shared → Prop} (q : ∀ p' s', Pm N p' → SoT key p' N → I s' → Q p' s') : (kas_sort N).kasWp cmp Q s := by
  unfold kas_sort
  rw [KasT.kasWp_bind]
  refine count_ok hc (Array.Perm.refl _) (Nat.le_refl _) h1 is fun m p' s' hp' m1 m2 m3 is' => ?_
  dsimp only
  by_cases hlt : m < N
  · rw [if_pos hlt]
    have e : max m 1 = m := by first | assumption | exact Nat.le_refl _ | exact Nat.le_of_lt (by assumption) | exact Nat.lt_of_lt_of_le (by assumption) (by assumption) | exact Nat.le_trans (by assumption) (by assumption) | exact Nat.lt_of_le_of_lt (by assumption) (by assumption) | exact Nat.lt_trans (by assumption) (by assumption) | exact Nat.le_succ_of_le (by assumption) | exact Nat.lt_succ_of_le (by assumption) | omega
    rw [e]
    exact bin_ok hc (N - m) m p' s' hp' (by first | assumption | exact Nat.le_refl _ | exact Nat.le_of_lt (by assumption) | exact Nat.lt_of_lt_of_le (by assumption) (by assumption) | exact Nat.le_trans (by assumption) (by assumption) | exact Nat.lt_of_le_of_lt (by assumption) (by assumption) | exact Nat.lt_trans (by assumption) (by assumption) | exact Nat.le_succ_of_le (by assumption) | exact Nat.lt_succ_of_le (by assumption) | omega) m3 is' q
  · rw [if_neg hlt]
    have e : m = N := by first | assumption | exact Nat.le_refl _ | exact Nat.le_of_lt (by assumption) | exact Nat.lt_of_lt_of_le (by assumption) (by assumption) | exact Nat.le_trans (by assumption) (by assumption) | exact Nat.lt_of_le_of_lt (by assumption) (by assumption) | exact Nat.lt_trans (by assumption) (by assumption) | exact Nat.le_succ_of_le (by assumption) | exact Nat.lt_succ_of_le (by assumption) | omega
    subst e
    exact q p' s' hp' m3 is'
end
end Mine
end
section
open PySem PySem.W PySem.W.X PyProof.Rows PySem.Calls
set_option maxRecDepth 100000
namespace Mine
theorem sg3_neg (x y : Int) : decide (sg3 x y < 0) = decide (x < y) := by
  unfold sg3
  by_cases h1 : x > y
  · rw [if_pos h1, if_neg (by omega)]
    rw [decide_eq_false (by omega), decide_eq_false (by omega)]
  · by_cases h2 : x < y
    · rw [if_neg h1, if_pos h2, decide_eq_true (by omega), decide_eq_true h2]
    · rw [if_neg h1, if_neg h2, decide_eq_false (by omega), decide_eq_false h2]
section
variable {w : World} {mg mb : Str → Option Value} {g : Array GenState} {d : Drawn} {os : OsState}
set_option maxHeartbeats 4000000 in
theorem lt_spec {A : Around} {E : Value → Shared → Prop} {fs : Facts} {K cm x y dx dy : Addr} {a b : Int} {ta tb : Tok} {h : Heap} {t : Nat} (R : RoomN 3 40 A) (W : Wd w mg mb h) (kr : KR fs K cm) (hf : Has fs h)
    (hx : h.get? x = some (KInst K dx (.int a ta))) (hdx : h.get? dx = some emptyDict) (hy : h.get? y = some (KInst K dy (.int b tb))) (hdy : h.get? dy = some emptyDict) :
    wpAny (MM w) A (keyLt' oneType' (.ref x) (.ref y)) (fun r s' => ∃ h' t', r = decide (a < b) ∧ s' = ⟨h', g, d, t', os⟩ ∧ Gr [] h h') E ⟨h, g, d, t, os⟩ := by
  obtain ⟨a0, a1, b0, b1, s0, s1, k, _, ⟨p1, p2, p3, p4, p5, p6, p7, p8, p9, p10, p11, kc, mo, rfl, rfl, rfl⟩⟩ := kr
  obtain ⟨md, f0, f1, cf0, cf1, oc0, oc1, oc, doc0, doc1, pm0, pm1, ctv0, ctv1, F, hf0, hf1, hc0, hc1, ho0, ho1, hcm, hcv⟩ := kfacts k hf
  have X := has_in hf
  rw [keyLt'_oneType, oneLt'_eq]
  simp only [if_true]
  refine wpAny_bind (wpAny_cRoomFor (by have := R.u; show A.units < 9900; omega) ?_)
  refine wpAny_bind (ifBound_K X (inst_at hx hdx) F.lt (by unfold isFn; rw [F.t1]; rfl) ?_)
  refine wpAny_call ?_
  refine codeAny_call_def (binds := [("self", .ref x), ("other", .ref y)]) R.lim hf1 rfl W.lim (codeRec_ob hc1 ho1) rfl (BindsTo.of_eq rfl) ?_ (locs rfl) (fun h₁ hns hk => ?_)
  · intro y hy; simp only [List.mem_cons, List.not_mem_nil, or_false] at hy; rcases hy with rfl | rfl | rfl <;> decide
  have S₁ := Sta.mk' (ts := []) (Gr.of hk) (size_none _) hns
  have W₁ := W.gr Tabs.nil S₁.gr
  have FR : Fr h h.objs.size h₁ _ := ⟨hns, hk, Nat.le_refl _⟩
  refine wpAny_execs_cons (wpAny_Return_some (wpAny_Compare1 (wpAny_Call_Name_kw (n_free (hk _ _ hcm) hcv (c_call keeps_fn (wpAny_items_cons (Attribute_Name_ (n_loc S₁ rfl ?_))))))))
  refine get_slot FR X (inst_at (hk _ _ hx) (hk _ _ hdx)) F.pg F.cls F.obj F.getm F.takes F.slot rfl rfl ?_
  refine wpAny_items_cons (Attribute_Name_ (n_loc S₁ rfl ?_))
  refine get_slot FR X (inst_at (hk _ _ hy) (hk _ _ hdy)) F.pg F.cls F.obj F.getm F.takes F.slot rfl rfl ?_
  refine wpAny_items_nil ⟨⟨_, _, W₁.k 45 _ rfl, rfl⟩, ?_⟩
  refine wpAny_mono (three_spec (RoomN.room (n := 2) (u := 37) R.deep) W₁) ?_ (fun _ _ e => e)
  rintro v s' ⟨h₂, t', rfl, G₂, tk, rfl⟩
  refine wpAny_Constant_int (lt_int ?_)
  refine wpAny_truthy_bool ?_
  exact ⟨_, _, sg3_neg a b, rfl, (Gr.of hk).trans G₂⟩
end
end Mine
end
section
open PySem PySem.W PySem.W.X PyProof.Rows PySem.Calls
set_option maxRecDepth 100000
namespace Mine
theorem arr_getD {α : Type} (xs : Array α) {i : Nat} {x : α} (h : i < xs.size) : xs.getD i x = xs[i] := by simp [Array.getD, h]
/-- the keys are instances of K that hold the items -/
noncomputable def KeysAt (h : Heap) (K : Addr) (vs kvs : List Value) : Prop :=
  kvs.length = vs.length ∧ ∀ (i : Nat) (v k : Value), vs[i]? = some v → kvs[i]? = some k → ∃ (x dx : Addr), k = Value.ref x ∧ h.get? x = some (KInst K dx v) ∧ h.get? dx = some emptyDict
theorem KeysAt.gr {h h' : Heap} {K : Addr} {vs kvs : List Value} (x : KeysAt h K vs kvs) (G : ∀ b o, h.get? b = some o → o.cls ≠ .type "list" → h'.get? b = some o) : KeysAt h' K vs kvs :=
  ⟨x.1, fun i v k e1 e2 => let ⟨x, dx, a, b, c⟩ := x.2 i v k e1 e2; ⟨x, dx, a, G _ _ b (by intro q; cases q), G _ _ c (by decide)⟩⟩
theorem KeysAt.snoc {h : Heap} {K : Addr} {vs kvs : List Value} {v k : Value} (a : KeysAt h K vs kvs) {x dx : Addr} (e : k = .ref x) (hx : h.get? x = some (KInst K dx v)) (hdx : h.get? dx = some emptyDict) : KeysAt h K (vs ++ [v]) (kvs ++ [k]) := by
  refine ⟨by simp [a.1], fun i v' k' e1 e2 => ?_⟩
  by_cases hi : i < vs.length
  · rw [List.getElem?_append_left hi] at e1
    rw [List.getElem?_append_left (by rw [a.1]; exact hi)] at e2
    exact a.2 i v' k' e1 e2
  · have : i = vs.length := by
      have := (List.getElem?_eq_some_iff.mp e1).1
      simp at this; omega
    subst this
    have e3 : (kvs ++ [k])[vs.length]? = some k := by rw [← a.1]; simp
    rw [e3] at e2; cases e2
    simp at e1; subst e1
    exact ⟨x, dx, e, hx, hdx⟩
section
variable {w : World} {mg mb : Str → Option Value} {g : Array GenState} {d : Drawn} {os : OsState}
theorem keepBut {h h' : Heap} {a : Addr} (hs : Heap.SameBut a h h') {xs : Array Value} {e : Nat} (ha : h.get? a = some (seqObj "list" xs e)) : ∀ b o, h.get? b = some o → o.cls ≠ .type "list" → h'.get? b = some o := fun b o e n =>
  (hs.2 b (fun q => by rw [q, ha] at e; cases e; exact n rfl)).trans e
theorem gr_but {h₀ h h' : Heap} {a : Addr} (G : Gr [] h₀ h) (n : h₀.get? a = none) (hs : Heap.SameBut a h h') : Gr [] h₀ h' :=
  Gr.of fun b o e => (hs.2 b (none_ne n e)).trans (G.all _ _ e)
set_option maxHeartbeats 4000000 in
/-- the sort itself, once the keys are made -/
theorem end_spec {A : Around} {P : PySem.Fin → Shared → Prop} {E : Value → Shared → Prop} {fs : Facts} {K cm a kS : Addr} {vs : List Value} {ns : List Int} {keys : Array Value} {e e1 : Nat} {h₀ h : Heap} {t : Nat} (R : RoomN 3 40 A) (W : Wd w mg mb h₀) (kr : KR fs K cm) (hf : Has fs h₀)
    (G : Gr [] h₀ h) (na : h₀.get? a = none) (nk : h₀.get? kS = none) (hka : kS ≠ a) (ha : h.get? a = some (seqObj "list" #[] e1)) (hk : h.get? kS = some (seqObj "list" keys e)) (hi : IntsAre vs ns) (ky : KeysAt h K vs keys.toList) (h2 : 2 ≤ vs.length) (h64 : vs.length < 64)
    (q : ∀ h' t' out ns' c, Gr [] h₀ h' → h'.get? a = some (lst out c) → IntsAre out ns' → ns'.Perm ns → ns'.Pairwise (· ≤ ·) → P (.done (.ret .none)) ⟨h', g, d, t', os⟩) :
    wpAny (MM w) A (ksk_end a false vs.toArray e1 (.ref kS) keys) P E ⟨h, g, d, t, os⟩ := by
  have hl := hi.length
  have hks : keys.size = vs.length := by rw [← Array.length_toList]; exact ky.1
  have hzs : (keys.zip vs.toArray).size = vs.length := by rw [Array.size_zip, hks, List.size_toArray, Nat.min_self]
  unfold ksk_end
  dsimp only
  rw [if_neg Bool.false_ne_true]
  have hn2 : ¬ vs.toArray.size < 2 := by rw [List.size_toArray]; omega
  rw [if_neg hn2, if_neg hn2]
  have kat : ∀ i, i < vs.length → ∃ (x dx : Addr) (tk : Tok), keys.toList[i]? = some (.ref x) ∧ h.get? x = some (KInst K dx (.int (ns.getD i 0) tk)) ∧ h.get? dx = some emptyDict := fun i hlt => by
    obtain ⟨tk, e⟩ := ints_get hi (i := i) (by omega)
    have hkl : i < keys.toList.length := by rw [ky.1]; exact hlt
    obtain ⟨x, dx, e1, e2, e3⟩ := ky.2 i _ _ e (List.getElem?_eq_getElem hkl)
    exact ⟨x, dx, tk, by rw [List.getElem?_eq_getElem hkl, e1], e2, e3⟩
  have hty : ∀ v ∈ keys.toList, Looks (MM w) h (typeOf v) (.ref K) := fun v hv => by
    obtain ⟨i, hi', ev⟩ := List.mem_iff_getElem.mp hv
    obtain ⟨x, dx, tk, e1, e2, e3⟩ := kat i (Nat.lt_of_lt_of_eq hi' ky.1)
    rw [List.getElem?_eq_getElem hi', ev] at e1
    rw [Option.some.inj e1]
    exact (inst_at e2 e3).type (M := MM w)
  have ek : keys = keys.toList.toArray := by simp
  refine wpAny_bind ?_
  rw [ek]
  refine kas_kind (T := .ref K) (by rw [ky.1]; exact h2) hty rfl (by simp) ?_
  rw [← ek]
  rw [if_neg Bool.false_ne_true]
  have est : SortSt.mk' oneType' (keys.zip vs.toArray) #[] 7 none = kas_st oneType' (keys.zip vs.toArray) (List.toArray (List.range vs.length)) := by
    have e := kas_range (keys.zip vs.toArray)
    rw [hzs] at e
    show SortSt.mk' oneType' (keys.zip vs.toArray) #[] 7 none = SortSt.mk' oneType' ((List.toArray (List.range vs.length)).map (kas_item (keys.zip vs.toArray))) #[] 7 none
    rw [e]
  have itm : ∀ i, i < vs.length → ∃ (x dx : Addr) (tk : Tok), kas_item (keys.zip vs.toArray) i = (.ref x, .int (ns.getD i 0) tk) ∧ h.get? x = some (KInst K dx (.int (ns.getD i 0) tk)) ∧ h.get? dx = some emptyDict := fun i hlt => by
    obtain ⟨x, dx, tk, e1, e2, e3⟩ := kat i hlt
    obtain ⟨tk', e4⟩ := ints_get hi (i := i) (by omega)
    have hkl : i < keys.size := by omega
    have e5 : keys[i] = .ref x := by
      have : keys.toList[i]? = some keys[i] := by simp [hkl]
      rw [this] at e1; exact Option.some.inj e1
    have e6 : vs[i] = .int (ns.getD i 0) tk' := by
      rw [List.getElem?_eq_getElem hlt] at e4; exact Option.some.inj e4
    obtain ⟨x', dx', e7, e8, e9⟩ := ky.2 i _ _ e4 e1
    cases e7
    refine ⟨x, dx', tk', ?_, e8, e9⟩
    unfold kas_item
    have hz : i < (keys.zip vs.toArray).size := by omega
    have : (keys.zip vs.toArray).getD i (Value.none, Value.none) = (keys.zip vs.toArray)[i] := arr_getD _ hz
    rw [this, Array.getElem_zip, e5]
    simp [e6]
  have ask : Asks vs.length (fun i => ns.getD i 0) (fun s' => ∃ h' t', s' = ⟨h', g, d, t', os⟩ ∧ Gr [] h h') (kas_cmp PR w A oneType' (keys.zip vs.toArray)) := by
    rintro i j C s hi' hj' ⟨h', t', rfl, G'⟩ hC
    unfold kas_cmp
    obtain ⟨x, dx, tx, e1, e2, e3⟩ := itm i hi'
    obtain ⟨y, dy, ty, e4, e5, e6⟩ := itm j hj'
    rw [e1, e4]
    refine wpAny_mono (lt_spec R (W.gr Tabs.nil (G.trans G')) kr (hf.gr (G.trans G')) (G'.all _ _ e2) (G'.all _ _ e3) (G'.all _ _ e5) (G'.all _ _ e6)) ?_ (fun _ _ e => e)
    rintro r s' ⟨h'', t'', rfl, rfl, G''⟩
    exact hC _ ⟨h'', t'', rfl, G'.trans G''⟩
  have run := kas_runs (E := E) (Q := fun _ st' s' => ∃ p : Array Nat, arrOf st' = p.map (kas_item (keys.zip vs.toArray)) ∧ failedOf st' = none ∧ Pm vs.length p ∧ SoT (fun i => ns.getD i 0) p vs.length ∧ ∃ h' t', s' = ⟨h', g, d, t', os⟩ ∧ Gr [] h h')
    (G := fun p s' => Pm vs.length p ∧ SoT (fun i => ns.getD i 0) p vs.length ∧ ∃ h' t', s' = ⟨h', g, d, t', os⟩ ∧ Gr [] h h') h2 h64 (fun p' st' s' a1 a2 a3 a4 => ⟨p', a2, a3, a4⟩) (sort_ok ask (by omega) ⟨h, t, rfl, Gr.refl _ _⟩ fun p' s' x y z => ⟨x, y, z⟩)
  rw [← est] at run
  refine wpAny_bind (wpAny_mono run ?_ fun _ _ e => e)
  rintro ⟨⟨⟩, st'⟩ s' ⟨p, har, hfl, hpm, hso, h₂, t₂, rfl, G₂⟩
  dsimp only
  have ps := hpm.size
  have ha₂ := G₂.all _ _ ha
  have hk₂ := G₂.all _ _ hk
  have plt : ∀ i ∈ p.toList, i < vs.length := fun i hi' => by
    have := (Array.perm_iff_toList_perm.mp hpm).mem_iff.mp hi'
    simpa using this
  have hout : ((arrOf st').map (·.2)).toList = p.toList.map fun i => vs.getD i Value.none := by
    rw [har, Array.map_map, Array.toList_map]
    refine List.map_congr_left fun i hi' => ?_
    obtain ⟨x, dx, tk, e1, e2, e3⟩ := itm i (plt i hi')
    show (kas_item _ i).2 = _
    unfold kas_item
    have hz : i < (keys.zip vs.toArray).size := by rw [hzs]; exact plt i hi'
    have : (keys.zip vs.toArray).getD i (Value.none, Value.none) = (keys.zip vs.toArray)[i] := arr_getD _ hz
    rw [this, Array.getElem_zip]
    simp [plt i hi']
  have hsz : ((arrOf st').map (·.2)).size = vs.length := by rw [har, Array.size_map, Array.size_map, ps]
  unfold ksk_tail
  dsimp only
  have s1 := Heap.SameBut.update h₂ kS (Obj.mapSeq fun _ => (#[] : Array Value))
  have na1 : (h₂.update kS (Obj.mapSeq fun _ => (#[] : Array Value))).get? a = some (seqObj "list" #[] e1) := (s1.2 a hka.symm).trans ha₂
  have s2 := Heap.SameBut.update (h₂.update kS (Obj.mapSeq fun _ => (#[] : Array Value))) a (Obj.mapSeq fun _ => (arrOf st').map (·.2))
  obtain ⟨c2, hc2⟩ : ∃ c2, ((h₂.update kS (Obj.mapSeq fun _ => (#[] : Array Value))).update a (Obj.mapSeq fun _ => (arrOf st').map (·.2))).get? a = some (seqObj "list" ((arrOf st').map (·.2)) c2) :=
    ⟨_, get?_update_seq na1 fun _ => (arrOf st').map (·.2)⟩
  refine wpAny_bind (listUpdate_at hk₂ rfl ?_ (by rw [hks, sizeLine_eq]; omega) (Nat.zero_le _))
  refine wpAny_bind (wpAny_letGo ?_)
  refine wpAny_bind (seqEpoch_at na1 rfl ?_)
  simp only [Bool.false_eq_true, if_false]
  refine wpAny_bind (listUpdate_at na1 rfl ?_ (Nat.zero_le _) (Nat.le_trans (Nat.le_of_eq hsz) (by rw [sizeLine_eq]; omega)))
  rw [hfl]
  simp only [bne_self_eq_false, Bool.false_eq_true, if_false]
  have hrange : (p.toList).Perm (List.range vs.length) := by
    have := Array.perm_iff_toList_perm.mp hpm
    simpa using this
  refine wpAny_pure (q _ _ (p.toList.map fun i => vs.getD i Value.none) (p.toList.map fun i => ns.getD i 0) c2 (gr_but (gr_but (G.trans G₂) nk s1) na s2) ?_ ?_ ?_ ?_)
  · rw [← hout]
    show _ = some (seqObj "list" ((arrOf st').map (·.2)).toList.toArray c2)
    rw [Array.toArray_toList]
    exact hc2
  · have : ∀ l : List Nat, (∀ i ∈ l, i < vs.length) → IntsAre (l.map fun i => vs.getD i Value.none) (l.map fun i => ns.getD i 0) := by
      intro l
      induction l with
      | nil => intro _; exact .nil
      | cons i l ih =>
        intro hl'
        obtain ⟨tk, e⟩ := ints_get hi (i := i) (by have := hl' i (.head _); omega)
        have e' : vs.getD i Value.none = .int (ns.getD i 0) tk := by rw [List.getD_eq_getElem?_getD, e]; rfl
        rw [List.map_cons, List.map_cons, e']
        exact .cons _ _ (ih fun j hj => hl' j (.tail _ hj))
    exact this _ plt
  · have h1 := hrange.map fun i => ns.getD i 0
    have h3 : (List.range vs.length).map (fun i => ns.getD i 0) = ns := by
      rw [hl]
      have := map_range_getD ns id
      simpa using this
    rw [h3] at h1
    exact h1
  · rw [List.pairwise_iff_getElem]
    intro i j hi' hj' hij
    have hi2 : i < p.size := by simpa using hi'
    have hj2 : j < p.size := by simpa using hj'
    have := hso i j (Nat.le_of_lt hij) (by omega)
    unfold kk at this
    have e1 : p.getD i 0 = p[i] := by simp [Array.getD, hi2]
    have e2 : p.getD j 0 = p[j] := by simp [Array.getD, hj2]
    rw [e1, e2] at this
    simpa using this
end
end Mine
end
section
open PySem PySem.W PySem.W.X PyProof.Rows PySem.Calls
set_option maxRecDepth 100000
namespace Mine
section
variable {w : World} {mg mb : Str → Option Value} {g : Array GenState} {d : Drawn} {os : OsState}
theorem has_gr {fs : Facts} {h h' : Heap} (a : Has fs h) (G : Gr [] h h') : Has fs h' := a.gr G
set_option maxHeartbeats 4000000 in
theorem rest_spec {A : Around} {P : PySem.Fin → Shared → Prop} {E : Value → Shared → Prop} {fs : Facts} {K cm a kS : Addr} {vs : List Value} {ns : List Int} {e1 : Nat} {h₀ h : Heap} {t : Nat} (R : RoomN 3 40 A) (W : Wd w mg mb h₀) (kr : KR fs K cm) (hf : Has fs h₀)
    (G : Gr [] h₀ h) (na : h₀.get? a = none) (nk : h₀.get? kS = none) (hka : kS ≠ a) (ha : h.get? a = some (seqObj "list" #[] e1)) (hk : h.get? kS = some (seqObj "list" #[] 0)) (hi : IntsAre vs ns) (h2 : 2 ≤ vs.length) (h64 : vs.length < 64)
    (q : ∀ h' t' out ns' c, Gr [] h₀ h' → h'.get? a = some (lst out c) → IntsAre out ns' → ns'.Perm ns → ns'.Pairwise (· ≤ ·) → P (.done (.ret .none)) ⟨h', g, d, t', os⟩) :
    wpAny (MM w) A (ksk_rest a (.ref K) false vs.toArray e1 (.ref kS)) P E ⟨h, g, d, t, os⟩ := by
  unfold ksk_rest
  refine wpAny_bind (wpAny_rule ?_)
  rw [List.forIn_toArray]
  refine wpAny_bind (ksk_fold (fun i s' => ∃ h' tk kA e, s' = ⟨h', g, d, tk, os⟩ ∧ Gr [] h₀ h' ∧ h'.get? a = some (seqObj "list" #[] e1) ∧ h'.get? kS = some (seqObj "list" kA e) ∧ KeysAt h' K (vs.take i) kA.toList) vs 0 ⟨h, g, d, t, os⟩
    ⟨h, t, #[], 0, rfl, G, ha, hk, by simp [KeysAt]⟩ ?step ?done)
  case step =>
    rintro j x s' hx ⟨h', tk, kA, e, rfl, G', ha', hk', ky⟩
    simp only [Nat.zero_add] at ky ⊢
    have hj : j < vs.length := (List.getElem?_eq_some_iff.mp hx).1
    have hz : kA.size ≤ vs.length := by
      have h1 := ky.1
      rw [Array.length_toList, List.length_take] at h1
      omega
    refine wpAny_bind (wpAny_attempt (wpAny_mono (mk_spec (R.le (by omega) (by omega)) (W.gr Tabs.nil G') kr (hf.gr G')) ?_ fun _ _ e => e))
    rintro v s'' ⟨y, dy, h₂, t₂, rfl, rfl, G₂, hy, hdy, ny, ndy, ne⟩
    dsimp only
    have ha₂ := G₂.all _ _ ha'
    have hk₂ := G₂.all _ _ hk'
    have s1 := Heap.SameBut.update h₂ kS (Obj.mapSeq (·.push (.ref y)))
    obtain ⟨c2, hc2⟩ : ∃ c2, (h₂.update kS (Obj.mapSeq (·.push (.ref y)))).get? kS = some (seqObj "list" (kA.push (.ref y)) c2) := ⟨_, get?_update_seq hk₂ (·.push (.ref y))⟩
    have ek : vs.take (j + 1) = vs.take j ++ [x] := by rw [List.take_add_one, hx]; simp
    have ea : (kA.push (Value.ref y)).toList = kA.toList ++ [Value.ref y] := by simp
    refine wpAny_bind (listUpdate_at hk₂ rfl ?_ (by rw [sizeLine_eq]; omega) (Nat.le_trans (Nat.le_of_eq (Array.size_push ..)) (by rw [sizeLine_eq]; omega)))
    refine wpAny_pure ⟨rfl, _, _, kA.push (.ref y), c2, rfl, gr_but (G'.trans G₂) nk s1, (s1.2 a hka.symm).trans ha₂, hc2, ?_⟩
    rw [ea, ek]
    have kb := keepBut s1 hk₂
    exact ((ky.gr fun b o e _ => G₂.all _ _ e).gr kb).snoc rfl (kb _ _ hy (by intro q; cases q)) (kb _ _ hdy (by decide))
  case done =>
    rintro s' ⟨h', tk, kA, e, rfl, G', ha', hk', ky⟩
    have e3 : vs.take (0 + vs.length) = vs := List.take_of_length_le (by omega)
    rw [e3] at ky
    refine wpAny_bind (listItems_at hk' rfl ?_)
    exact end_spec R W kr hf G' na nk hka ha' hk' hi ky h2 h64 q
set_option maxHeartbeats 4000000 in
theorem sortk_spec {A : Around} {Q : Value → Shared → Prop} {E : Value → Shared → Prop} {fs : Facts} {K cm l : Addr} {vs : List Value} {ns : List Int} {h : Heap} {t : Nat} (R : RoomN 3 42 A) (W : Wd w mg mb h) (kr : KR fs K cm) (hf : Has fs h)
    (hl : h.IsList l vs.toArray) (hi : IntsAre vs ns) (h2 : 2 ≤ vs.length) (h64 : vs.length < 64)
    (q : ∀ D h' t' out ns' c, Gr [] h h' → h.get? D = none → h'.get? D = some (lst out c) → IntsAre out ns' → ns'.Perm ns → ns'.Pairwise (· ≤ ·) → Q (.ref D) ⟨h', g, d, t', os⟩) :
    wpAny (MM w) A (call (.builtin "sorted") [.ref l] [(Str.ofString "key", .ref K)]) Q E ⟨h, g, d, t, os⟩ := by
  refine call_function_entry_kw kind_sorted plain_sorted entry_sorted (ksk_s1 _ _) ?_
  unfold Builtin.«sorted»
  refine wpAny_bind (m := checkCount "sorted" 1 1 _) (wpAny_pure ?_)
  refine wpAny_bind (collect_list hl ?_ (by rw [sizeLine_eq]; omega))
  refine wpAny_bind (wpAny_newList ?_ (by rw [sizeLine_eq]; omega))
  have hsz : ((h.push (seqObj "list" #[] 0)).update h.objs.size (Obj.mapSeq (· ++ vs.toArray))).objs.size = h.objs.size + 1 := by
    rw [Heap.size_update, size_push']
  have hoL : (((h.push (seqObj "list" #[] 0)).update h.objs.size (Obj.mapSeq (· ++ vs.toArray))).push (seqObj "list" vs.toArray 0)).get? (h.objs.size + 1) = some (seqObj "list" vs.toArray 0) := by
    rw [← hsz]; exact Heap.get?_push_size _ rfl
  have keep : ∀ b o, h.get? b = some o → (((h.push (seqObj "list" #[] 0)).update h.objs.size (Obj.mapSeq (· ++ vs.toArray))).push (seqObj "list" vs.toArray 0)).get? b = some o := fun b o q => by
    have hlt : b < h.objs.size := Heap.lt_size q
    rw [Heap.get?_push_ne _ _ _ (by rw [hsz]; exact Nat.ne_of_lt (Nat.lt_succ_of_lt hlt)), Heap.get?_update_ne _ _ _ _ (Nat.ne_of_lt hlt), Heap.get?_push_ne _ _ _ (Nat.ne_of_lt hlt)]
    exact q
  have hsz1 : (((h.push (seqObj "list" #[] 0)).update h.objs.size (Obj.mapSeq (· ++ vs.toArray))).push (seqObj "list" vs.toArray 0)).objs.size = h.objs.size + 2 := by rw [size_push', hsz]
  show wpAny _ _ _ _ _ ⟨((h.push (seqObj "list" #[] 0)).update h.objs.size (Obj.mapSeq (· ++ vs.toArray))).push (seqObj "list" vs.toArray 0), g, d, t, os⟩
  rw [hsz]
  generalize ((h.push (seqObj "list" #[] 0)).update h.objs.size (Obj.mapSeq (· ++ vs.toArray))).push (seqObj "list" vs.toArray 0) = h₁ at *
  have nD : h.get? (h.objs.size + 1) = none := Heap.get?_none_of_le (Nat.le_succ _)
  refine wpAny_bind (wpAny_holding (wpAny_call_entry_kw slot_list_sort ⟨_, hoL, rfl⟩ entry_list_sort ?body (ksk_l1 _ _)))
  rw [ksk_t1]
  unfold ksk_tree
  have s1 := Heap.SameBut.update h₁ (h.objs.size + 1) (Obj.mapSeq fun _ => (#[] : Array Value))
  obtain ⟨e1, ho1⟩ : ∃ e1, (h₁.update (h.objs.size + 1) (Obj.mapSeq fun _ => (#[] : Array Value))).get? (h.objs.size + 1) = some (seqObj "list" #[] e1) := ⟨_, get?_update_seq hoL fun _ => #[]⟩
  refine wpAny_bind (listItems_at hoL rfl ?_)
  refine wpAny_bind (listUpdate_at hoL rfl ?_ (by rw [List.size_toArray, sizeLine_eq]; omega) (Nat.zero_le _))
  refine wpAny_bind (seqEpoch_at ho1 rfl ?_)
  refine wpAny_bind (wpAny_newTuple ?_ (by show vs.length ≤ _; rw [sizeLine_eq]; omega))
  refine wpAny_bind (wpAny_newList ?_ (Nat.zero_le _))
  refine wpAny_holding ?_
  have hsz2 : ((h₁.update (h.objs.size + 1) (Obj.mapSeq fun _ => (#[] : Array Value))).push (seqObj "tuple" vs.toArray 0)).objs.size = h.objs.size + 3 := by rw [size_push', Heap.size_update, hsz1]
  have up : ∀ b o, (h₁.update (h.objs.size + 1) (Obj.mapSeq fun _ => (#[] : Array Value))).get? b = some o → (((h₁.update (h.objs.size + 1) (Obj.mapSeq fun _ => (#[] : Array Value))).push (seqObj "tuple" vs.toArray 0)).push (seqObj "list" #[] 0)).get? b = some o := fun b o e => Heap.get?_push_of_some _ (Heap.get?_push_of_some _ e)
  have nS : h.get? (h.objs.size + 3) = none := Heap.get?_none_of_le (by omega)
  have ne3 : h.objs.size + 3 ≠ h.objs.size + 1 := by omega
  dsimp only
  rw [hsz2]
  refine rest_spec (kS := h.objs.size + 3) (a := h.objs.size + 1) (e1 := e1) (h₀ := h) (h := ((h₁.update (h.objs.size + 1) (Obj.mapSeq fun _ => (#[] : Array Value))).push (seqObj "tuple" vs.toArray 0)).push (seqObj "list" #[] 0)) ?R W kr hf ?G nD nS ne3 (up _ _ ho1) ?kS hi h2 h64 ?qq
  case R => exact RoomN.in1 (RoomN.in1 R)
  case G => exact Gr.of fun b o e => up _ _ ((s1.2 b (none_ne nD e)).trans (keep _ _ e))
  case kS => rw [← hsz2]; exact Heap.get?_push_size _ rfl
  case qq =>
    intro h' t' out ns' c G' ha' hI hP hO
    exact ⟨_, rfl, wpAny_pure ⟨_, rfl, q _ h' t' out ns' c G' nD ha' hI hP hO⟩⟩
end
end Mine
end
section
open PySem PySem.W PySem.W.X PyProof.Rows PySem.Calls
set_option maxRecDepth 100000
namespace Mine
section
variable {w : World} {mg mb : Str → Option Value} {g : Array GenState} {d : Drawn} {os : OsState}
/-- a name bound to a comprehension: the statement -/
theorem asg_exec {A : Around} {E : Value → Shared → Prop} {Q : Flow → Shared → Prop} {s : Shared} {elt iter : Expr} {x y : Str} {px py : Pos} {ifs : List Expr} {scope : Scope} {cl : List (Str × Addr)} {pos spos : Pos} {env : Env}
    (hsw : swapsWith (.ListComp elt [⟨.Name x px, iter, ifs, 0⟩] scope pos) (some (.Name y py)) spos.line env = pure true) (hclos : closureFor scope env = pure cl) (hkind : scope.kind = .function)
    (hnames : ∀ z ∈ scope.names, z.2 = .local → scope.names.lookup z.1 = some .local)
    (h : wpAny (MM w) A (eval iter env) (fun xv s₁ => wpAny (MM w) A (pyIter xv) (fun it s₂ => wpAny (MM w) A (newList []) (fun acc s₃ => wpAny (MM w) A (newFunctionEnv scope env.globals cl [] env.qual none .none (some env)) (fun cenv s₄ =>
      codeAny (MM w) A (.compStart (.ListComp elt [⟨.Name x px, iter, ifs, 0⟩] scope pos) 0 it acc { cenv with scope := relabel scope env }) (compPost (MM w) A E (some (assign (.Name y py) env)) (fun _ s' => Q .next s') acc cenv.locals) s₄) E s₃) E s₂) E s₁) E s)
    (hs : ∀ x, foldedSetIterable iter env x = pure x := by intro _; rfl) :
    wpAny (MM w) A (exec (.Assign [.Name y py] (.ListComp elt [⟨.Name x px, iter, ifs, 0⟩] scope pos) spos) env) Q E s := by
  rw [exec_Assign_Name_used _ _ _ _ hsw]
  refine wpAny_bind (wpAny_standAt (wpAny_bind ?_))
  show wpAny _ A (do let _ ← comprehension (.ListComp elt [⟨.Name x px, iter, ifs, 0⟩] scope pos) scope env _ (newList []) false (eval iter env) (some (assign (.Name y py) env))) _ _ s
  exact wpAny_bind (wpAny_mono (wpAny_comprehension_free (use := some (assign (.Name y py) env)) (Q := fun _ s' => Q .next s') rfl hs hclos hkind hnames h) (fun _ s' hq => wpAny_pure (wpAny_pure hq)) fun _ _ e => e)
theorem asg_comp {A : Around} {E : Value → Shared → Prop} {Q : Value → Shared → Prop} {h₀ hb h : Heap} {L : Addr} {m : Str → Option Value} {ow : Facts} {I n : Nat} {t : Nat} {P : Nat → Value → Prop} {St : Nat → Obj → Prop} {dep : Heap → Prop} {El : Nat → Value → Value → Facts → Prop} {No : Nat → Value → Prop}
    {elt iter : Expr} {x y : Str} {px py : Pos} {ifs : List Expr} {scope : Scope} {cl : List (Str × Addr)} {pos : Pos} {env : Env} {o : Obj}
    (S : Sta [] h₀ L m ow hb) (hL : env.locals = L)
    (T : Itr w g d os A I n P St dep) (hdep : ∀ h, Gr [] hb h → dep h) (hn : n ≤ 1000) (G : Gr [] hb h) (nI : hb.get? I = none) (hI : h.get? I = some o) (st : St 0 o)
    (turn : ∀ C i v m ow h t (E : Value → Shared → Prop), hb.get? C = none → i < n → P i v → Sta [] hb C m ow h → m x = some v →
      wpAny (MM w) A (testsOf ifs (compEnvC scope cl C env)) (fun ok s' => ∃ h' t', s' = ⟨h', g, d, t', os⟩ ∧ Gr [] h h' ∧ (if ok = true then wpAny (MM w) A (eval elt (compEnvC scope cl C env))
        (fun y s'' => ∃ h'' t'' f, s'' = ⟨h'', g, d, t'', os⟩ ∧ Gr [] h' h'' ∧ El i v y f ∧ Has f h'' ∧ (f.map (·.1)).Pairwise (· ≠ ·) ∧ ∀ p ∈ f, h'.get? p.1 = none) E s' else No i v)) E ⟨h, g, d, t, os⟩)
    (fin : ∀ D h' t' ys fs k, Made P El No n ys fs → Sta [] h₀ L (fun z => if z = y then some (.ref D) else m z) (fs ++ [(D, lst ys k)] ++ ow) h' → Q .none ⟨h', g, d, t', os⟩)
    (hcell : ∀ y ∈ scope.names, y.2 ≠ .cell) (hkind : scope.kind = .function) (hx : scope.names.lookup x = some .local)
    (hy : env.kindOf y = some .local) (hp : (env.scope.kind == .class || (env.scope.kind == .module && env.locals != env.globals)) = false) :
    wpAny (MM w) A (newList []) (fun acc s₃ => wpAny (MM w) A (newFunctionEnv scope env.globals cl [] env.qual none .none (some env)) (fun cenv s₄ =>
      codeAny (MM w) A (.compStart (.ListComp elt [⟨.Name x px, iter, ifs, 0⟩] scope pos) 0 (.ref I) acc { cenv with scope := relabel scope env }) (compPost (MM w) A E (some (assign (.Name y py) env)) Q acc cenv.locals) s₄) E s₃) E ⟨h, g, d, t, os⟩ := by
  subst hL
  refine comp_block (RR := compPost (MM w) A E (some (assign (.Name y py) env)) Q) T hdep hn G nI hI st turn (fun C D h' t' m' ys fs k md S' => ?_) hcell hkind hx
  show wpAny (MM w) A (assign (.Name y py) env (.ref D)) _ E _
  have LC : env.locals ≠ C := fun q => by
    obtain ⟨o, _, _, e, _⟩ := S.ns
    rw [q, S'.lo] at e; cases e
  have S₁ := S.adds S'.gr (fun p hp => (S'.gt p hp).2) S'.own S'.ord
  refine wpAny_assign_Name (wpAny_storeName_local hy S₁.ns (fun h₂ hn₂ sb₂ => ?_) hp)
  have S₂ := S₁.set hn₂ sb₂
  refine ⟨m', S'.ns.sameBut sb₂ LC.symm, fun h₃ sb₃ => ?_⟩
  have nC : h₀.get? C = none := (S.fresh S'.lo).2
  have keepC : ∀ b o, b ≠ C → h₂.get? b = some o → h₃.get? b = some o := fun b o n e => (sb₃.2 b n).trans e
  refine fin D h₃ _ ys fs k md ⟨⟨fun b o n e => keepC b o (none_ne nC e) (S₂.gr.keep b o n e)⟩, S₂.lo, S₂.ns.sameBut sb₃ LC, fun p hp => keepC _ _ ?_ (S₂.own p hp), S₂.gt, S₂.ord⟩
  rcases List.mem_append.mp hp with hp | hp
  · exact (S'.gt p hp).1
  · exact none_ne S'.lo (S.own p hp)
theorem tests_one {A : Around} {E : Value → Shared → Prop} {Q : Bool → Shared → Prop} {s : Shared} {c : Expr} {env : Env} (q : wpAny (MM w) A (isTrue c env (eval c env)) Q E s) : wpAny (MM w) A (testsOf [c] env) Q E s := by
  unfold testsOf
  rw [List.forIn_cons, if_pos rfl]
  refine wpAny_bind (wpAny_bind (wpAny_mono q (fun b s' hq => wpAny_pure ?_) fun _ _ e => e))
  dsimp only
  rw [List.forIn_nil]
  exact wpAny_pure hq
theorem split_words {A : Around} {E : Value → Shared → Prop} {Q : Value → Shared → Prop} {h : Heap} {t : Nat} {x y : Str} {tx u : Tok} (hy : (y.length == 0) = false) (hsz : x.length + 2 ≤ sizeLine)
    (q : ∀ D l h' t', l.map (·.1) = Txt.split x y → Gr [] h h' → h.get? D = none → h'.get? D = some (lst (strValues l) 0) → Q (.ref D) ⟨h', g, d, t', os⟩) :
    wpAny (MM w) A (call (.builtin "str.split") [.str x tx, .str y u]) Q E ⟨h, g, d, t, os⟩ := by
  have hn : (Builtin.Str.partsBetween x (Builtin.Str.occurrences x y 0 x.length (x.length + 1)) y.length).length ≤ sizeLine := by
    have e1 := StrLaws.occ_length_le x y 0 x.length (x.length + 1)
    rw [length_partsBetween]; omega
  cases h1 : (decide (x.length < y.length) || decide (Builtin.Str.strKind x < Builtin.Str.strKind y))
  · cases hf : (Builtin.Str.occurrences x y 0 x.length (x.length + 1)).isEmpty
    · refine call_meets F.slot_str_split (typeIs_str _ _ _) F.entry_str_split (F.args_str_split_2 _ _) (meets_str_split_sep x y tx u h1 hy hf (by omega) hn) ?_
      show wants Q E _ (⟨h.push { cls := .type "list", data := .seq (strsFrom t (Builtin.Str.partsBetween x (Builtin.Str.occurrences x y 0 x.length (x.length + 1)) y.length)).toArray }, g, d, _, os⟩ : Shared)
      rw [strsFrom_eq]
      exact q _ (numbered t _) _ _ ((numbered_texts _ _).trans ((if_neg (ne_true_of_eq_false h1)).trans (if_neg (ne_true_of_eq_false hf))).symm) (Gr.push _ _ _) (size_none h) (Heap.get?_push_size _ rfl)
    · exact call_meets F.slot_str_split (typeIs_str _ _ _) F.entry_str_split (F.args_str_split_2 _ _) (meets_str_split_not_found x y tx u h1 hy hf)
        (q _ [(x, tx)] _ t ((if_neg (ne_true_of_eq_false h1)).trans (if_pos hf)).symm (Gr.push _ _ _) (size_none h) (Heap.get?_push_size _ rfl))
  · exact call_meets F.slot_str_split (typeIs_str _ _ _) F.entry_str_split (F.args_str_split_2 _ _) (meets_str_split_cannot_occur x y tx u h1)
      (q _ [(x, tx)] _ t (if_pos h1).symm (Gr.push _ _ _) (size_none h) (Heap.get?_push_size _ rfl))
theorem index_strs {A : Around} {E : Value → Shared → Prop} {Q : Value → Shared → Prop} {h : Heap} {t n : Nat} {l : Addr} {nl : List (Str × Tok)} {wd : Str} {u : Tok} (hl : h.get? l = some (lst (strValues nl) n)) (hm : wd ∈ nl.map (·.1)) (hlen : nl.length ≤ 1000)
    (q : Q (.int ((nl.map (·.1)).idxOf wd : Nat) t) ⟨h, g, d, t + 1, os⟩) : wpAny (MM w) A (call (.builtin "list.index") [.ref l, .str wd u]) Q E ⟨h, g, d, t, os⟩ := by
  have hj : (nl.map (·.1)).idxOf wd < (nl.map (·.1)).length := List.idxOf_lt_length_iff.mpr hm
  have hj' : (nl.map (·.1)).idxOf wd < nl.length := by simpa using hj
  have sz : (strValues nl).toArray.size = nl.length := by simp [strValues]
  have at_ : ∀ i (hi : i < nl.length), isStrOf wd (strValues nl).toArray[i] = ((nl.map (·.1))[i]'(by simpa using hi) == wd) := fun i hi => by simp [strValues, isStrOf]
  refine call_meets F.slot_list_index ⟨_, hl, rfl⟩ F.entry_list_index (F.args_list_index_2 _ _) (MeetsSeq.list_index l (strValues nl).toArray n (.str wd u) (isStrOf wd) ?_ ((nl.map (·.1)).idxOf wd) (by rw [sz]; exact hj') (by omega) ?_ ?_) ⟨hl, q⟩
  · intro y hy
    have hy' : y ∈ strValues nl := by simpa using hy
    obtain ⟨p, _, rfl⟩ := List.mem_map.mp hy'
    exact eqGives_str _ _ _ _
  · rw [at_ _ hj']
    exact beq_iff_eq.mpr (List.getElem_idxOf hj)
  · intro i hi hlt
    rw [at_ i (by rw [← sz]; exact hi)]
    have := List.not_of_lt_findIdx (p := (· == wd)) (xs := nl.map (·.1)) hlt
    simpa using this
end
end Mine
end
section
open PySem PySem.W PySem.W.X PyProof.Rows PySem.Calls
set_option maxRecDepth 100000
namespace Mine
noncomputable def bitsF (f : Nat) : List Int := ((List.range 5).filter fun j => f.testBit j).map Int.ofNat
noncomputable def rowF (f : Nat) : List Int := if f = 0 then [5] else bitsF f
noncomputable def CH : List (List Int) := (List.range 32).map bitsF
noncomputable def namesL : List Str := ["OPTIMIZED", "NEWLOCALS", "VARARGS", "VARKEYWORDS", "NESTED", "0x0"]
theorem split_ok0 : ∀ f : Fin 8, Txt.split (Builtin.Str.glued ", " (wordsOf f.val)) ", " = wordsOf f.val := by decide +kernel
theorem split_ok1 : ∀ f : Fin 8, Txt.split (Builtin.Str.glued ", " (wordsOf (8 + f.val))) ", " = wordsOf (8 + f.val) := by decide +kernel
theorem split_ok2 : ∀ f : Fin 8, Txt.split (Builtin.Str.glued ", " (wordsOf (16 + f.val))) ", " = wordsOf (16 + f.val) := by decide +kernel
theorem split_ok3 : ∀ f : Fin 8, Txt.split (Builtin.Str.glued ", " (wordsOf (24 + f.val))) ", " = wordsOf (24 + f.val) := by decide +kernel
theorem split_ok : ∀ f : Fin 32, Txt.split (Builtin.Str.glued ", " (wordsOf f)) ", " = wordsOf f := by
  rintro ⟨n, hn⟩
  have up : ∀ k, k ≤ n → n = k + (n - k) := fun k h => (Nat.add_sub_cancel' h).symm
  by_cases h1 : n < 8
  · exact split_ok0 ⟨n, h1⟩
  by_cases h2 : n < 16
  · have := split_ok1 ⟨n - 8, by omega⟩
    dsimp only at this ⊢
    rwa [← up 8 (by omega)] at this
  by_cases h3 : n < 24
  · have := split_ok2 ⟨n - 16, by omega⟩
    dsimp only at this ⊢
    rwa [← up 16 (by omega)] at this
  · have := split_ok3 ⟨n - 24, by omega⟩
    dsimp only at this ⊢
    rwa [← up 24 (by omega)] at this
theorem split_size : ∀ f : Fin 32, (Builtin.Str.glued ", " (wordsOf f)).length + 2 ≤ sizeLine := by decide +kernel
theorem words_in : ∀ f : Fin 32, ∀ wd ∈ wordsOf f, wd ∈ namesL := by decide +kernel
theorem words_ix : ∀ f : Fin 32, (wordsOf f).map (fun wd => ((namesL.idxOf wd : Nat) : Int)) = rowF f := by decide +kernel
theorem words_le : ∀ f : Fin 32, (wordsOf f).length ≤ 1000 := by decide +kernel
theorem row_filter : ∀ f : Fin 32, (rowF f).filter (fun x => decide (x < 5)) = bitsF f := by decide +kernel
theorem row_le : ∀ f : Fin 32, (rowF f).length ≤ 1000 := by decide +kernel
section
variable {P : Nat → Value → Prop} {El : Nat → Value → Value → Facts → Prop} {No : Nat → Value → Prop} {n : Nat} {ys : List Value} {fs : Facts}
theorem made_rows (md : Made P El No n ys fs) (R : Nat → List Int) (he : ∀ i v y f, i < n → P i v → El i v y f → ∃ a vs k, y = Value.ref a ∧ f = [(a, lst vs k)] ∧ IntsAre vs (R i)) (hno : ∀ i v, ¬ No i v) :
    ys.length = n ∧ ∀ (i : Nat) (v : Value), ys[i]? = some v → ∃ a vs k, v = Value.ref a ∧ (a, lst vs k) ∈ fs ∧ IntsAre vs (R i) := by
  induction md with
  | nil => exact ⟨rfl, fun i v e => nomatch e⟩
  | @yes i v y ys fs f' md pv el ih =>
    obtain ⟨h1, h2⟩ := ih fun i v y fs hi => he i v y fs (Nat.lt_succ_of_lt hi)
    obtain ⟨a, vs, k, rfl, rfl, iv⟩ := he _ _ _ _ (Nat.lt_succ_self _) pv el
    refine ⟨by rw [List.length_append, h1]; rfl, fun j v' e => ?_⟩
    by_cases hj : j < ys.length
    · rw [List.getElem?_append_left hj] at e
      obtain ⟨a', vs', k', e1, e2, e3⟩ := h2 j v' e
      exact ⟨a', vs', k', e1, List.mem_append_right _ e2, e3⟩
    · have hl := (List.getElem?_eq_some_iff.mp e).1
      rw [List.length_append, List.length_singleton] at hl
      have ej : j = ys.length := by omega
      subst ej
      have e' : (ys ++ [Value.ref a])[ys.length]? = some (Value.ref a) := by simp
      rw [e'] at e; cases e
      rw [h1]
      exact ⟨a, vs, k, rfl, List.mem_append_left _ (.head _), iv⟩
  | no _ _ hn => exact absurd hn (hno _ _)
theorem made_filter {xs : List Int} (md : Made P El No n ys fs) (p : Int → Bool) (f : Int → Int) (hn : n ≤ xs.length)
    (he : ∀ i v y fs, i < n → P i v → El i v y fs → fs = [] ∧ p (xs.getD i 0) = true ∧ ∃ tk, y = .int (f (xs.getD i 0)) tk) (hno : ∀ i v, i < n → P i v → No i v → p (xs.getD i 0) = false) :
    IntsAre ys (((xs.take n).filter p).map f) ∧ fs = [] := by
  induction md with
  | nil => exact ⟨.nil, rfl⟩
  | @yes i v y ys fs f' md pv el ih =>
    obtain ⟨h1, h2⟩ := ih (by omega) (fun i v y fs hi => he i v y fs (Nat.lt_succ_of_lt hi)) (fun i v hi => hno i v (Nat.lt_succ_of_lt hi))
    obtain ⟨rfl, pt, tk, rfl⟩ := he _ _ _ _ (Nat.lt_succ_self _) pv el
    have e : xs[i]? = some (xs.getD i 0) := by rw [List.getD_eq_getElem?_getD, List.getElem?_eq_getElem (by omega)]; rfl
    rw [List.take_add_one, e, List.filter_append, List.map_append]
    have e2 : (Option.toList (some (xs.getD i 0))).filter p = [xs.getD i 0] := by
      show List.filter p [xs.getD i 0] = _
      rw [List.filter_cons_of_pos pt]; rfl
    rw [e2]
    exact ⟨h1.append (.cons _ tk .nil), by rw [h2]; rfl⟩
  | @no i v ys fs md pv nn ih =>
    obtain ⟨h1, h2⟩ := ih (by omega) (fun i v y fs hi => he i v y fs (Nat.lt_succ_of_lt hi)) (fun i v hi => hno i v (Nat.lt_succ_of_lt hi))
    have pf := hno _ _ (Nat.lt_succ_self _) pv nn
    have e : xs[i]? = some (xs.getD i 0) := by rw [List.getD_eq_getElem?_getD, List.getElem?_eq_getElem (by omega)]; rfl
    rw [List.take_add_one, e, List.filter_append, List.map_append]
    have e2 : (Option.toList (some (xs.getD i 0))).filter p = [] := by
      show List.filter p [xs.getD i 0] = []
      rw [List.filter_cons_of_neg (by rw [pf]; exact Bool.false_ne_true)]; rfl
    rw [e2]
    exact ⟨by simpa using h1, h2⟩
end
theorem map_range_getDS (l : List Str) (f : Str → Int) : (List.range l.length).map (fun i => f (l.getD i default)) = l.map f := by
  apply List.ext_getElem
  · simp
  · intro i h1 h2
    simp at h1
    simp [h1]
end Mine
end
section
open PySem PySem.W PySem.W.X PyProof.Rows PySem.Calls
set_option maxRecDepth 100000
namespace Mine
theorem ch_getD {i : Nat} (h : i < 32) : CH.getD i [] = bitsF i := by
  unfold CH
  rw [List.getD_eq_getElem?_getD, List.getElem?_map, List.getElem?_range h]
  rfl
/-- the rows among the facts -/
structure RowsIn (fs : Facts) (cvs : List Value) (cs : List (List Int)) : Prop where
  len : cvs.length = cs.length
  row : ∀ (i : Nat) (v : Value), cvs[i]? = some v → ∃ a vs k, v = Value.ref a ∧ (a, lst vs k) ∈ fs ∧ IntsAre vs (cs.getD i [])
theorem RowsIn.at {fs : Facts} {cvs : List Value} {cs : List (List Int)} {h : Heap} (x : RowsIn fs cvs cs) (hf : ∀ p ∈ fs, h.get? p.1 = some p.2) : RowsAt h cvs cs :=
  ⟨x.len, fun i v e => let ⟨a, vs, _, e1, e2, e3⟩ := x.row i v e; ⟨a, vs, e1, lst_is (hf _ e2), e3⟩⟩
theorem ch_len : CH.length = 32 := rfl
section
variable {w : World} {mg mb : Str → Option Value} {g : Array GenState} {d : Drawn} {os : OsState}
set_option maxHeartbeats 4000000 in
theorem choices_spec {A : Around} {E : Value → Shared → Prop} {h : Heap} {t : Nat} (R : RoomN 3 40 A) (W : Wd w mg mb h) :
    wpAny (MM w) A (call (.ref 62) []) (Back [] g d os h fun v h' => ∃ D cvs k fs, v = .ref D ∧ Has (fs ++ [(D, lst cvs k)]) h' ∧ (∀ p ∈ fs ++ [(D, lst cvs k)], h.get? p.1 = none) ∧ ((fs ++ [(D, lst cvs k)]).map (·.1)).Pairwise (· ≠ ·) ∧ RowsIn fs cvs CH) E ⟨h, g, d, t, os⟩ := by
  refine wpAny_call (codeAny_call_cells (binds := []) R.lim (W.k 62 _ rfl) rfl W.lim (codeRec_of W.k rfl) rfl rfl rfl (fun x hx => nomatch hx) (fun s₁ x => ?_))
  obtain ⟨h₁, t₁, oc, rfl, S₁, hoc⟩ := sta_cell1 x
  refine wp_gen2 fun Qf Ef hQf => ?_
  refine wpAny_execs_cons (wp_gen fun Qs hQs => ?_)
  refine wpAny_Assign_Name ?_
  refine wpAny_List ?_
  refine wpAny_items_cons (wpAny_Constant_str ?_)
  refine wpAny_items_cons (wpAny_Constant_str ?_)
  refine wpAny_items_cons (wpAny_Constant_str ?_)
  refine wpAny_items_cons (wpAny_Constant_str ?_)
  refine wpAny_items_cons (wpAny_Constant_str ?_)
  refine wpAny_items_cons (wpAny_Constant_str ?_)
  refine wpAny_items_nil ⟨by show 6 ≤ sizeLine; decide, ?_⟩
  dsimp only
  obtain ⟨nl, hnl, hns⟩ : ∃ nl : List (Str × Tok), strValues nl = [Value.str "OPTIMIZED" t₁, Value.str "NEWLOCALS" (t₁ + 1), Value.str "VARARGS" (t₁ + 1 + 1), Value.str "VARKEYWORDS" (t₁ + 1 + 1 + 1), Value.str "NESTED" (t₁ + 1 + 1 + 1 + 1), Value.str "0x0" (t₁ + 1 + 1 + 1 + 1 + 1)] ∧ nl.map (·.1) = namesL :=
    ⟨[("OPTIMIZED", t₁), ("NEWLOCALS", t₁ + 1), ("VARARGS", t₁ + 1 + 1), ("VARKEYWORDS", t₁ + 1 + 1 + 1), ("NESTED", t₁ + 1 + 1 + 1 + 1), ("0x0", t₁ + 1 + 1 + 1 + 1 + 1)], rfl, rfl⟩
  rw [← hnl]
  have hnlen : nl.length ≤ 1000 := by rw [← List.length_map (f := (·.1)), hns]; decide
  have S₂ := S₁.push (lst (strValues nl) 0) rfl
  refine s_cell (c := h.objs.size + 1) (oc := oc) S₂ 1 rfl hoc ?_
  intro h₃ oc₃ hd₃ S₃
  have W₃ := W.gr Tabs.nil S₃.gr
  have N₃ := S₃.own _ (.head _)
  have C₃ := S₃.own _ (.tail _ (.head _))
  refine hQs _ _ ?_
  try dsimp only
  refine wpAny_execs_cons (wp_gen fun Qs hQs => ?_)
  refine asg_exec (cl := [("names", h.objs.size + 1)]) rfl rfl rfl (by decide) ?_
  refine wpAny_Call_Name_kw ?_
  refine n_blt W₃ rfl rfl ?_
  refine c_call keeps_type ?_
  refine wpAny_items_cons ?_
  refine wpAny_Constant_int ?_
  refine wpAny_items_nil ⟨trivial, ?_⟩
  refine pyIter_range (n := 32) (by decide) fun I h₄ t₄ G₄ nI hI => ?_
  refine asg_comp (El := fun i _ y f => ∃ a vs k, y = Value.ref a ∧ f = [(a, lst vs k)] ∧ IntsAre vs (rowF i)) (No := fun _ _ => False) S₃ rfl (Itr.range (by exact R.h) I 32) (fun _ _ => trivial) (by decide) G₄ nI hI rfl ?turn ?fin (by decide) rfl rfl rfl rfl
  case turn =>
    rintro C i v m' ow' h' t' E'' nC hi ⟨tv, rfl⟩ S' hm'
    refine tests_nil ⟨h', t', rfl, Gr.refl _ _, ?_⟩
    simp only [if_true]
    have W' := W₃.gr Tabs.nil S'.gr
    rw [eval_ListComp]
    refine wpAny_comprehension_free (cl := [("names", h.objs.size + 1)]) rfl (fun _ => rfl) rfl rfl (by decide) ?_
    refine m_call F.plainAttrs_str F.slot_str_split F.type_str_split ?_
    refine wpAny_Call_Name_kw ?_
    refine n_glob W' rfl ?_
    refine c_call keeps_fn ?_
    refine wpAny_items_cons ?_
    refine n_loc S' hm' ?_
    refine wpAny_items_nil ⟨⟨_, _, W'.k 22 _ rfl, rfl⟩, ?_⟩
    refine wpAny_mono (pretty_spec hi (RoomN.le (n := 2) (u := 37) (RoomN.deep R) (by omega) (by omega)) W') ?_ (fun _ _ e => e)
    rintro v s' ⟨h₅, t₅, rfl, G₅, tk₅, rfl⟩
    refine ⟨rfl, (fun a q => nomatch q), ?_⟩
    refine wpAny_items_cons (wpAny_Constant_str ?_)
    refine wpAny_items_nil ?_
    refine split_words rfl (split_size ⟨i, hi⟩) fun D l h₆ t₆ hl G₆ nD hD => ?_
    have hl' : l.map (·.1) = wordsOf i := hl.trans (split_ok ⟨i, hi⟩)
    have hll : l.length ≤ 1000 := by rw [← List.length_map (f := (·.1)), hl']; exact words_le ⟨i, hi⟩
    have sl : (strValues l).length = l.length := by simp [strValues]
    refine wpAny_pyIter_list (lst_is hD) ?_
    refine comp_eval (El := fun j _ y f => f = [] ∧ ∃ tk, y = .int ((namesL.idxOf ((l.map (·.1)).getD j default) : Nat) : Int) tk) (No := fun _ _ => False) (hb := h₆) (Itr.list (by exact R.h) h₆.objs.size D (strValues l)) (fun h' G => list_all (lst_is hD) G.all) (by rw [sl]; exact hll) (Gr.push _ _ _) (size_none _) (Heap.get?_push_size _ rfl) ⟨rfl, rfl⟩ ?turn2 ?fin2 (by decide) rfl rfl
    case turn2 =>
      intro C2 j v m2 ow2 h7 t7 E3 nC2 hj pv S7 hm2
      refine tests_nil ⟨h7, t7, rfl, Gr.refl _ _, ?_⟩
      simp only [if_true]
      have up : ∀ b o, h₃.get? b = some o → h7.get? b = some o := fun b o e => S7.all _ _ (G₆.all _ _ (G₅.all _ _ (S'.all _ _ e)))
      obtain ⟨wd, tw, e1, e2⟩ : ∃ wd tw, v = Value.str wd tw ∧ (l.map (·.1)).getD j default = wd := by
        have hj' : j < l.length := by rw [← sl]; exact hj
        have e : (strValues l)[j]? = some (Value.str l[j].1 l[j].2) := by simp [strValues, hj']
        rw [e] at pv; cases pv
        exact ⟨_, _, rfl, by simp [hj']⟩
      subst e1
      refine m_call F.plainAttrs_list F.slot_list_index F.type_list_index ?_
      refine n_cell (c := h.objs.size + 1) (up _ _ C₃) hd₃ ?_
      refine ⟨(lst_is (up _ _ N₃)).typeIs, no_dict (up _ _ N₃) rfl, ?_⟩
      refine wpAny_items_cons (n_loc S7 hm2 ?_)
      refine wpAny_items_nil ?_
      refine index_strs (up _ _ N₃) ?_ hnlen ?_
      · rw [hns]
        refine words_in ⟨i, hi⟩ wd ?_
        have hj' : j < l.length := by rw [← sl]; exact hj
        have : (l.map (·.1)).getD j default ∈ l.map (·.1) := by
          rw [List.getD_eq_getElem?_getD, List.getElem?_eq_getElem (by simpa using hj')]
          exact List.getElem_mem _
        rw [e2, hl'] at this
        exact this
      · refine ⟨h7, _, [], rfl, Gr.refl _ _, ⟨rfl, t7, ?_⟩, (fun _ h => nomatch h), List.Pairwise.nil, (fun _ h => nomatch h)⟩
        rw [hns, e2]
    case fin2 =>
      intro D2 h7 t7 ys fs k md G7 hh hn hp
      obtain ⟨hys, rfl⟩ := made_ints md (fun j => ((namesL.idxOf ((l.map (·.1)).getD j default) : Nat) : Int)) (fun j v y fs hj pv x => x) (fun _ _ h => h)
      have e3 : (List.range (strValues l).length).map (fun j => ((namesL.idxOf ((l.map (·.1)).getD j default) : Nat) : Int)) = rowF i := by
        have e4 : (strValues l).length = (l.map (·.1)).length := by simp [strValues]
        rw [e4, map_range_getDS (l.map (·.1)) (fun wd => ((namesL.idxOf wd : Nat) : Int)), hl']
        exact words_ix ⟨i, hi⟩
      rw [e3] at hys
      refine ⟨h7, t7, [(D2, lst ys k)], rfl, (G₅.trans G₆).trans G7, ⟨D2, ys, k, rfl, rfl, hys⟩, hh, hp, fun p hp => ?_⟩
      rw [List.mem_singleton.mp hp]
      have n7 := hn (D2, lst ys k) (.head _)
      cases e : h'.get? D2 with
      | none => rfl
      | some o => rw [(G₅.trans G₆).all _ _ e] at n7; cases n7
  case fin =>
    intro D h₅ t₅ ys fs k md S₅
    obtain ⟨hyl, hrow⟩ := made_rows md rowF (fun i v y f hi pv x => x) (fun _ _ h => h)
    have L₅ := S₅.own (D, lst ys k) (by simp)
    refine hQs _ _ ?_
    dsimp only
    refine wpAny_execs_cons (wp_gen fun Qs hQs => ?_)
    refine wpAny_Return_some ?_
    rw [eval_ListComp]
    refine wpAny_comprehension_free (cl := []) rfl (fun _ => rfl) rfl rfl (by decide) ?_
    refine n_loc S₅ rfl ?_
    refine wpAny_pyIter_list (lst_is L₅) ?_
    refine comp_eval (El := fun i _ y f => ∃ a vs k, y = Value.ref a ∧ f = [(a, lst vs k)] ∧ IntsAre vs (bitsF i)) (No := fun _ _ => False) (hb := h₅) (Itr.list (by exact R.h) h₅.objs.size D ys) (fun h' G => list_all (lst_is L₅) G.all) (by omega) (Gr.push _ _ _) (size_none _) (Heap.get?_push_size _ rfl) ⟨rfl, rfl⟩ ?turn3 ?fin3 (by decide) rfl rfl
    case turn3 =>
      intro C i v m' ow' h' t' E'' nC hi pv S' hm'
      refine tests_nil ⟨h', t', rfl, Gr.refl _ _, ?_⟩
      simp only [if_true]
      rw [hyl] at hi
      obtain ⟨a, vs, k', rfl, hmem, iv⟩ := hrow i v pv
      have La := S₅.own (a, lst vs k') (List.mem_append_left _ (List.mem_append_left _ hmem))
      have La' := S'.all _ _ La
      have vl : vs.length ≤ 1000 := by rw [iv.length]; exact row_le ⟨i, hi⟩
      rw [eval_ListComp]
      refine wpAny_comprehension_free (cl := []) rfl (fun _ => rfl) rfl rfl (by decide) ?_
      refine n_loc S' hm' ?_
      refine wpAny_pyIter_list (lst_is La') ?_
      refine comp_eval (El := fun j _ y f => f = [] ∧ decide ((rowF i).getD j 0 < 5) = true ∧ ∃ tk, y = .int ((rowF i).getD j 0) tk) (No := fun j _ => decide ((rowF i).getD j 0 < 5) = false) (hb := h') (Itr.list (by exact R.h) h'.objs.size a vs) (fun h' G => list_all (lst_is La') G.all) vl (Gr.push _ _ _) (size_none _) (Heap.get?_push_size _ rfl) ⟨rfl, rfl⟩ ?turn4 ?fin4 (by decide) rfl rfl
      case turn4 =>
        intro C2 j v m2 ow2 h7 t7 E3 nC2 hj pv S7 hm2
        obtain ⟨tk, e⟩ := ints_get iv (i := j) (by rw [← iv.length]; exact hj)
        rw [e] at pv; cases pv
        refine tests_one (wpAny_isTrue_Compare1 (n_loc S7 hm2 (wpAny_Constant_int (lt_int (wpAny_truthy_bool ?_)))))
        refine ⟨h7, _, rfl, Gr.refl _ _, ?_⟩
        cases hdec : decide ((rowF i).getD j 0 < 5) with
        | true =>
          simp only [if_true]
          exact n_loc S7 hm2 ⟨h7, _, [], rfl, Gr.refl _ _, ⟨rfl, (by trivial), tk, rfl⟩, (fun _ h => nomatch h), List.Pairwise.nil, (fun _ h => nomatch h)⟩
        | false =>
          simp only [Bool.false_eq_true, if_false]
      case fin4 =>
        intro D2 h7 t7 ys2 fs2 k2 md2 G7 hh hn hp
        obtain ⟨hys, rfl⟩ := made_filter (xs := rowF i) md2 (fun x => decide (x < 5)) id (by rw [iv.length]; exact Nat.le_refl _) (fun j v y fs hj pv x => x) (fun j v hj pv x => x)
        rw [iv.length, List.take_length, List.map_id, row_filter ⟨i, hi⟩] at hys
        refine ⟨h7, t7, [(D2, lst ys2 k2)], rfl, G7, ⟨D2, ys2, k2, rfl, rfl, hys⟩, hh, hp, fun p hp => hn p hp⟩
    case fin3 =>
      intro D3 h₆ t₆ ys3 fs3 k3 md3 G₆ hh hn hp
      obtain ⟨hyl3, hrow3⟩ := made_rows md3 bitsF (fun i v y f hi pv x => x) (fun _ _ h => h)
      have back : ∀ a, h₅.get? a = none → h.get? a = none := fun a q => by
        cases e : h.get? a with
        | none => rfl
        | some o => rw [S₅.all _ _ e] at q; cases q
      refine hQs _ _ (hQf _ _ ?_)
      refine ⟨h₆, t₆, rfl, S₅.gr.trans G₆, D3, ys3, k3, fs3, rfl, hh, fun p hp => back _ (hn p hp), hp, by rw [hyl3, hyl]; rfl, fun i v e => ?_⟩
      obtain ⟨a, vs, k', rfl, hmem, iv⟩ := hrow3 i v e
      have hi : i < 32 := by
        have := (List.getElem?_eq_some_iff.mp e).1
        omega
      exact ⟨a, vs, k', rfl, hmem, by rw [ch_getD hi]; exact iv⟩
end
end Mine
end
section
open PySem PySem.W PySem.W.X PyProof.Rows PySem.Calls
set_option maxRecDepth 100000
namespace Mine
noncomputable def ListOb (o : Obj) (vs : List Value) : Prop := o.cls = .type "list" ∧ ∃ n, o.data = .seq vs.toArray n
theorem ListOb.is {h : Heap} {a : Addr} {o : Obj} {vs : List Value} (x : ListOb o vs) (e : h.get? a = some o) : h.IsList a vs.toArray := ⟨o, e, x.1, x.2⟩
noncomputable abbrev enumObj (it : Addr) (i : Int) (old : Value) : Obj := { cls := .type "enumerate", dict := none, data := .fields #[.none, .bool false, .ref it, rawInt i, .none, old], slots := #[] }
theorem all2 {P : Addr × Obj → Prop} {p q : Addr × Obj} (hp : P p) (hq : P q) : ∀ r ∈ [p, q], P r := fun r hr => by
  rcases List.mem_cons.mp hr with rfl | hr
  · exact hp
  · rw [List.mem_singleton.mp hr]; exact hq
theorem seq_set {o : Obj} {ys : List Value} {k n : Nat} {v : Value} (e : o.data = .seq (ys.toArray.setIfInBounds k v) n) : o.data = .seq (ys.set k v).toArray n := by rw [e]; simp
theorem Sta.two {h₀ h h' : Heap} {L : Addr} {m : Str → Option Value} {ow : Facts} {e it : Addr} {oe oit oe' oit' : Obj} (S : Sta [] h₀ L m (ow ++ [(e, oe), (it, oit)]) h) (k : ∀ b o, b ≠ e → b ≠ it → h.get? b = some o → h'.get? b = some o)
    (he : h'.get? e = some oe') (hit : h'.get? it = some oit') : Sta [] h₀ L m (ow ++ [(e, oe'), (it, oit')]) h' := by
  have ge := S.gt (e, oe) (by simp)
  have gi := S.gt (it, oit) (by simp)
  have ord := S.ord
  rw [List.map_append] at ord
  have apart := (List.pairwise_append.mp ord).2.2
  refine ⟨Gr.of fun b o x => k b o (none_ne ge.2 x) (none_ne gi.2 x) (S.all _ _ x), S.lo, ns_at S.ns fun o x => k _ o ge.1.symm gi.1.symm x, fun p hp => ?_, fun p hp => ?_, ?_⟩
  · rcases List.mem_append.mp hp with hp | hp
    · have hm : p.1 ∈ ow.map (·.1) := List.mem_map_of_mem hp
      exact k _ _ (apart _ hm _ (by simp)) (apart _ hm _ (by simp)) (S.own p (List.mem_append_left _ hp))
    · rcases List.mem_cons.mp hp with rfl | hp
      · exact he
      · rw [List.mem_singleton.mp hp]; exact hit
  · rcases List.mem_append.mp hp with hp | hp
    · exact S.gt p (List.mem_append_left _ hp)
    · rcases List.mem_cons.mp hp with rfl | hp
      · exact ge
      · rw [List.mem_singleton.mp hp]; exact gi
  · rw [List.map_append]; exact ord
section
variable {w : World} {mg mb : Str → Option Value} {g : Array GenState} {d : Drawn} {os : OsState}
theorem slice_tail {A : Around} {E : Value → Shared → Prop} {Q : Value → Shared → Prop} {h : Heap} {t : Nat} {value slice : Expr} {l : Addr} {items : Array Value} {vl vu : Value} {lo hi : Option Int} (hl : h.IsList l items) (pl : IsPart vl lo) (pu : IsPart vu hi) (hsz : items.size ≤ sizeLine)
    (q : ∀ D h', Gr [] h h' → h.get? D = none → h'.get? D = some (lst (slicePick items lo hi none).toList 0) → Q (.ref D) ⟨h', g, d, t, os⟩)
    (hs : subscripted slice false (.ref l) (.ref h.objs.size) = operate [.ref h.objs.size, .ref l] (getItem (.ref l) (.ref h.objs.size)) := by with_unfolding_all rfl)
    (ht : ∀ r, letTemporaryGo value (.ref l) r = pure () := by intro _; with_unfolding_all rfl) :
    wpAny (MM w) A (subscriptTail value slice (.ref l) (.ref h.objs.size)) Q E ⟨h.push { cls := .type "slice", data := .fields #[vl, vu, .none] }, g, d, t, os⟩ := by
  refine subscriptTail_ops (Heap.IsList.typeIs (s := ⟨h.push { cls := .type "slice", data := .fields #[vl, vu, .none] }, g, d, t, os⟩) (hl.push _)) list_getitem_lookup
    (wpAny_getItem_list_slice (hl.push _) (Heap.IsSliceOf.new ..) pl pu .none (by simp) ?_ hsz) hs ht
  dsimp only
  refine q _ _ ((Gr.push _ _ _).trans (Gr.push _ _ _)) (Heap.get?_none_of_le (by rw [Heap.size_push]; omega)) ?_
  rw [lst, Array.toArray_toList]
  exact Heap.get?_push_size _ rfl
theorem ints_set {vs : List Value} {ns : List Int} (hi : IntsAre vs ns) (k : Nat) (n : Int) (tk : Tok) : IntsAre (vs.set k (.int n tk)) (ns.set k n) := by
  induction hi generalizing k with
  | nil => exact .nil
  | cons a b r ih =>
    cases k with
    | zero => exact .cons _ _ r
    | succ k => exact .cons _ _ (ih k)
set_option maxHeartbeats 4000000 in
theorem numbers_spec {A : Around} {E : Value → Shared → Prop} {l : Addr} {vs : List Value} {ss : List Int} {h : Heap} {t : Nat} (R : RoomN 2 20 A) (W : Wd w mg mb h) (hl : h.IsList l vs.toArray) (hi : IntsAre vs ss) (hlen : vs.length ≤ 1000) :
    wpAny (MM w) A (call (.ref 52) [.ref l]) (Back [] g d os h fun v h' => ∃ D o ys ns, v = .ref D ∧ h.get? D = none ∧ h'.get? D = some o ∧ ListOb o ys ∧ IntsAre ys ns ∧ ns.length = 5) E ⟨h, g, d, t, os⟩ := by
  refine wpAny_call (codeAny_call_def (binds := [("script", .ref l)]) R.lim (W.k 52 _ rfl) rfl W.lim (codeRec_of W.k rfl) rfl (BindsTo.of_eq rfl) (by decide) (locs rfl) (fun h₁ hns hk => ?_))
  have S₁ := Sta.mk' (ts := []) (Gr.of hk) (size_none h) hns
  have W₁ := W.gr Tabs.nil S₁.gr
  refine wp_gen2 fun Qf Ef hQf => ?_
  refine wpAny_execs_cons (wp_gen fun Qs hQs => ?_)
  refine wpAny_Assign_Name ?_
  refine wpAny_List ?_
  refine wpAny_items_cons (wpAny_Constant_int ?_)
  refine wpAny_items_cons (wpAny_UnaryOp (wpAny_Constant_int (neg_int ?_)))
  refine wpAny_items_cons (wpAny_Constant_int ?_)
  refine wpAny_items_cons (wpAny_UnaryOp (wpAny_Constant_int (neg_int ?_)))
  refine wpAny_items_cons (wpAny_Constant_int ?_)
  refine wpAny_items_nil ⟨by show 5 ≤ sizeLine; decide, ?_⟩
  dsimp only
  refine s_loc (S₁.push (lst _ 0) rfl) fun h₃ S₃ => ?_
  have W₃ := W.gr Tabs.nil S₃.gr
  refine hQs _ _ ?_
  try dsimp only
  refine wpAny_execs_cons (wp_gen fun Qr hQr => ?_)
  refine wpAny_For ?_
  refine wpAny_Call_Name_kw ?_
  refine n_blt W₃ rfl rfl ?_
  refine c_call keeps_type ?_
  refine wpAny_items_cons ?_
  refine Subscript_ ?_
  refine n_loc S₃ rfl ?_
  refine wpAny_Slice (wpAny_pure ?_)
  rw [evalPart_some]
  refine wpAny_Constant_int ?_
  refine wpAny_pure ?_
  refine slice_tail (list_all hl S₃.all) .none (.int 60 _) (by rw [List.size_toArray, sizeLine_eq]; omega) fun D2 h₄ G₄ nD2 hD2 => ?_
  rw [show (60 : Int) = ((60 : Nat) : Int) from rfl, slicePick_upto'] at hD2
  have S₄ := S₃.add G₄ nD2 hD2
  have hi60 : IntsAre (vs.take 60) (ss.take 60) := hi.take 60
  have e60 : (vs.toArray.toList.take 60).toArray.toList = vs.take 60 := by simp
  rw [e60] at S₄ hD2
  have l60 : (vs.take 60).length ≤ 60 := by rw [List.length_take]; omega
  generalize hsv : vs.take 60 = sv at *
  generalize hsn : ss.take 60 = sn at *
  refine wpAny_items_nil ⟨trivial, ?_⟩
  refine call_enumerate_list (lst_is hD2) fun h₅ he hit hsz hk₅ => ?_
  dsimp only at he hit hk₅ hsz
  refine wpAny_pyIter_enum he ?_
  obtain ⟨oit, hoit, cit, dit⟩ := id hit
  have S₅ := (S₄.adds (fs := [(h₄.objs.size + 1, enumObj h₄.objs.size 0 .none), (h₄.objs.size, oit)]) (Gr.of hk₅) (all2 (Heap.get?_none_of_le (Nat.le_succ _)) (size_none _)) (all2 (P := fun p => h₅.get? p.1 = some p.2) he hoit)
    (.cons (fun b hb => by rw [List.mem_singleton.mp hb]; exact Nat.succ_ne_self _) (List.pairwise_singleton _ _))).perm List.perm_append_comm
  have hei : h₄.objs.size + 1 ≠ h₄.objs.size := Nat.succ_ne_self _
  generalize h₄.objs.size + 1 = e at *
  generalize h₄.objs.size = it at *
  refine codeAny_forLoop_any (fun j s => ∃ i m oD ys ns oit old hc tc, s = ⟨hc, g, d, tc, os⟩ ∧ j = sv.length + 1 - i ∧ i ≤ sv.length ∧
    Sta [] h h.objs.size m ([(D2, lst sv 0), (h₁.objs.size, oD)] ++ [(e, enumObj it ((i : Nat) : Int) old), (it, oit)]) hc ∧
    oit.cls = .type "list_iterator" ∧ oit.data = .fields #[.ref D2, .int i 0] ∧ m "numbers" = some (.ref h₁.objs.size) ∧ ListOb oD ys ∧ IntsAre ys ns ∧ ns.length = 5) ?turn (sv.length + 1)
    ⟨0, _, _, _, [3, -1, 2, -3, 1], oit, .none, h₅, _, rfl, rfl, Nat.zero_le _, S₅, cit, dit, rfl, ⟨rfl, 0, rfl⟩, .cons _ _ (.cons _ _ (.cons _ _ (.cons _ _ (.cons _ _ .nil)))), rfl⟩
  case turn =>
    rintro j s ⟨i, m, oD, ys, ns, oit, old, hc, tc, rfl, rfl, hile, S, cit, dit, mn, lD, iD, l5⟩
    have hE := S.own (e, enumObj it ((i : Nat) : Int) old) (by simp)
    have hI : hc.IsListIter it D2 i := ⟨oit, S.own (it, oit) (by simp), cit, dit⟩
    have hL := lst_is (S.own (D2, lst sv 0) (by simp))
    by_cases hlt : i < sv.length
    · have hx : sv.toArray[i]? = some sv[i] := by simp [hlt]
      refine wpAny_pyNext_enum_item hE hI hL hx hei fun h₆ heo hit₆ ht₆ hz₆ hk₆ => ?_
      dsimp only at heo hit₆ ht₆ hz₆ hk₆ ⊢
      refine wpAny_letOwnedTupleGo_enum heo fun h₇ he₇ hs₇ => ?_
      dsimp only at he₇ hs₇ ⊢
      have eh : e < hc.objs.size := Heap.lt_size hE
      have ht₇ : h₇.IsTuple hc.objs.size #[.int i tc, sv[i]] := ⟨_, (hs₇.2 _ (Nat.ne_of_gt eh)).trans ht₆, rfl, _, rfl⟩
      have hz₇ : h₇.objs.size = hc.objs.size + 1 := hs₇.1.trans hz₆
      refine wpAny_assign_Tuple (by exact R.h) ht₇ rfl rfl fun h₈ hx₈ => ?_
      dsimp only at hx₈ ⊢
      have old₈ : ∀ b o, b < hc.objs.size → h₇.get? b = some o → h₈.get? b = some o := fun b o hb x => hx₈ b o (by rw [hz₇]; exact Nat.ne_of_lt (Nat.lt_succ_of_lt hb)) x
      have ih : it < hc.objs.size := Heap.lt_size (S.own (it, oit) (by simp))
      have hit₇ := hit₆.extBut hs₇.extBut hei.symm
      obtain ⟨oit', hoit', cit', dit'⟩ := hit₇
      have ei : ((i : Nat) : Int) + 1 = ((i + 1 : Nat) : Int) := by omega
      rw [ei] at he₇
      have S₈ := S.two (h' := h₈) (fun b o n1 n2 x => old₈ b o (Heap.lt_size x) (hs₇.extBut b o n1 (hk₆ b o n1 n2 x))) (old₈ _ _ eh he₇) (old₈ _ _ ih hoit')
      show wpAny _ _ (do holding [sv[i]] (assign (.Name "k" _) _ (.int i tc)); do holding [] (assign (.Name "number" _) _ sv[i]); pure ()) _ _ _
      refine wpAny_bind (wpAny_holding (wpAny_assign_Name (s_loc S₈ fun h₉ S₉ => ?_)))
      refine wpAny_bind (wpAny_holding (wpAny_assign_Name (s_loc S₉ fun ha Sa => wpAny_pure ?_)))
      have Da := Sa.own (h₁.objs.size, oD) (by simp)
      refine wp_gen fun Qb hQb => ?_
      refine wpAny_execs_cons (wp_gen fun Qs hQs => ?_)
      refine wpAny_AugAssign_Subscript_any ?_
      refine n_loc Sa mn ?_
      refine wpAny_BinOp ?_
      refine n_loc Sa rfl ?_
      refine wpAny_Constant_int ?_
      refine mod_int (by decide) ?_
      have lt5 : 0 ≤ (i : Int).fmod 5 ∧ (i : Int).fmod 5 < 5 := ⟨Int.fmod_nonneg (by omega) (by omega), Int.fmod_lt_of_pos _ (by omega)⟩
      generalize (i : Int).fmod 5 = kk at *
      obtain ⟨tn, hnk⟩ := ints_get iD (i := kk.toNat) (by omega)
      refine wpAny_getItem_list (lD.is Da) lt5.1 (by omega) (by simpa using hnk) ?_
      refine n_loc Sa rfl ?_
      obtain ⟨ts, hsk⟩ := ints_get hi60 (i := i) (by rw [← hi60.length]; exact hlt)
      have esv : sv[i] = .int (sn.getD i 0) ts := by rw [List.getElem?_eq_getElem hlt] at hsk; exact Option.some.inj hsk
      rw [esv]
      refine iadd_int ?_
      have ysl := iD.length
      refine wpAny_setItem_list (lD.is Da) lt5.1 (by omega) (by rw [List.size_toArray]; omega) fun hb hlb sb => ?_
      obtain ⟨ob, hob, cob, nob, dob⟩ := hlb
      have Sb := Sa.upd 1 (by rfl) sb hob
      refine hQs _ _ ?_
      refine wpAny_execs_nil ?_
      refine hQb _ _ ?_
      refine ⟨sv.length + 1 - (i + 1), by omega, i + 1, _, ob, _, _, oit', _, hb, _, rfl, rfl, hlt, Sb, cit', dit', mn, ⟨cob, nob, seq_set dob⟩, ints_set iD _ _ _, by rw [List.length_set]; exact l5⟩
    · have hin : i = sv.length := by omega
      subst hin
      refine wpAny_pyNext_enum_end (by exact R.h) hE hI hL (by simp) fun h₆ ex => ?_
      have S₆ := S.ext 3 (by rfl) ex
      dsimp only
      refine wpAny_execs_nil ?_
      refine hQr _ _ ?_
      try dsimp only
      refine wpAny_execs_cons (wpAny_Return_some (n_loc S₆ mn ?_))
      refine hQf _ _ ?_
      exact ⟨h₆, _, rfl, S₆.gr, h₁.objs.size, oD, ys, ns, rfl, (S₆.gt (h₁.objs.size, oD) (by simp)).2, S₆.own (h₁.objs.size, oD) (by simp), lD, iD, l5⟩
end
end Mine
end
section
open PySem PySem.W PySem.W.X PyProof.Rows PySem.Calls
set_option maxRecDepth 100000
namespace Mine
noncomputable def absI (n : Int) : Int := if n < 0 then -n else n
noncomputable def szs (ns : List Int) : List Int := ns.map absI
noncomputable def tnOf (ns : List Int) (k : Nat) : Int := (((szs ns).take (k + 1)).count ((szs ns).getD k 0) : Nat)
noncomputable def belowP (ns : List Int) (k j : Nat) : Bool := decide (0 < (szs ns).getD j 0) && (decide ((szs ns).getD j 0 ≤ (szs ns).getD k 0) && (tnOf ns j == tnOf ns k))
noncomputable def smallOf (ns : List Int) : List Int := (List.range 5).map fun k => sg3 (ns.getD k 0) 0 * (((List.range 5).filter (belowP ns k)).length : Nat)
theorem sg3_vals (x y : Int) : sg3 x y = -1 ∨ sg3 x y = 0 ∨ sg3 x y = 1 := by
  unfold sg3
  by_cases h1 : x > y
  · rw [if_pos h1, if_neg (by omega)]; omega
  · by_cases h2 : x < y
    · rw [if_neg h1, if_pos h2]; omega
    · rw [if_neg h1, if_neg h2]; omega
theorem sg3_mul (x y : Int) (n : Int) : IntMulOk (sg3 x y) n := by
  refine IntMulOk.of_left ?_
  rcases sg3_vals x y with h | h | h <;> rw [h] <;> decide
section
variable {P : Nat → Value → Prop} {El : Nat → Value → Value → Facts → Prop} {No : Nat → Value → Prop} {n : Nat} {ys : List Value} {fs : Facts}
theorem made_count (md : Made P El No n ys fs) (p : Nat → Bool) (he : ∀ i v y fs, i < n → P i v → El i v y fs → p i = true) (hno : ∀ i v, i < n → P i v → No i v → p i = false) : ys.length = ((List.range n).filter p).length := by
  induction md with
  | nil => rfl
  | @yes i v y ys fs f' md pv el ih =>
    have h1 := ih (fun i v y fs hi => he i v y fs (Nat.lt_succ_of_lt hi)) (fun i v hi => hno i v (Nat.lt_succ_of_lt hi))
    have pt := he _ _ _ _ (Nat.lt_succ_self _) pv el
    rw [List.range_succ, List.filter_append, List.length_append, List.length_append, h1, List.filter_cons_of_pos pt]; rfl
  | @no i v ys fs md pv nn ih =>
    have h1 := ih (fun i v y fs hi => he i v y fs (Nat.lt_succ_of_lt hi)) (fun i v hi => hno i v (Nat.lt_succ_of_lt hi))
    have pf := hno _ _ (Nat.lt_succ_self _) pv nn
    rw [List.range_succ, List.filter_append, List.length_append, h1, List.filter_cons_of_neg (by rw [pf]; exact Bool.false_ne_true)]; rfl
end
theorem all3 {P : Addr × Obj → Prop} {p q r : Addr × Obj} (hp : P p) (hq : P q) (hr : P r) : ∀ z ∈ [p, q, r], P z := fun z hz => by
  rcases List.mem_cons.mp hz with rfl | hz
  · exact hp
  · exact all2 hq hr z hz
section
variable {w : World} {mg mb : Str → Option Value} {g : Array GenState} {d : Drawn} {os : OsState}
theorem sta_cell3 {h : Heap} {t : Nat} {m cm : Str → Option Value} {n1 n2 n3 : Str} {s₁ : Shared} (x : InCallC ⟨h, g, d, t, os⟩ h.objs.size m [(n3, h.objs.size + 3), (n2, h.objs.size + 2), (n1, h.objs.size + 1)] cm s₁) (e2 : (n1 == n3) = false) (e3 : (n1 == n2) = false) (e4 : (n2 == n3) = false) :
    ∃ h₁ t₁ o1 o2 o3, s₁ = ⟨h₁, g, d, t₁, os⟩ ∧ Sta [] h h.objs.size m [(h.objs.size + 1, o1), (h.objs.size + 2, o2), (h.objs.size + 3, o3)] h₁ ∧ o1.data = .cell (cm n1) ∧ o2.data = .cell (cm n2) ∧ o3.data = .cell (cm n3) := by
  obtain ⟨⟨⟨h₁, t₁, rfl⟩, ns, keep, fresh⟩, cell, _, _⟩ := x
  obtain ⟨o1, ho1, hd1⟩ := cell n1 (h.objs.size + 1) (by rw [List.lookup_cons, e2, List.lookup_cons, e3, List.lookup_cons]; simp)
  obtain ⟨o2, ho2, hd2⟩ := cell n2 (h.objs.size + 2) (by rw [List.lookup_cons, e4, List.lookup_cons]; simp)
  obtain ⟨o3, ho3, hd3⟩ := cell n3 (h.objs.size + 3) (by rw [List.lookup_cons]; simp)
  refine ⟨h₁, t₁, o1, o2, o3, rfl, ⟨Gr.of keep, size_none h, ns, all3 (P := fun p => h₁.get? p.1 = some p.2) ho1 ho2 ho3, all3 ?_ ?_ ?_, ?_⟩, hd1, hd2, hd3⟩
  · exact ⟨by show h.objs.size + 1 ≠ h.objs.size; omega, Heap.get?_none_of_le (by show h.objs.size ≤ h.objs.size + 1; omega)⟩
  · exact ⟨by show h.objs.size + 2 ≠ h.objs.size; omega, Heap.get?_none_of_le (by show h.objs.size ≤ h.objs.size + 2; omega)⟩
  · exact ⟨by show h.objs.size + 3 ≠ h.objs.size; omega, Heap.get?_none_of_le (by show h.objs.size ≤ h.objs.size + 3; omega)⟩
  · refine .cons (fun b hb => ?_) (.cons (fun b hb => ?_) (List.pairwise_singleton _ _))
    · simp only [List.map_cons, List.map_nil, List.mem_cons, List.not_mem_nil, or_false] at hb
      rcases hb with rfl | rfl <;> show h.objs.size + 1 ≠ _ <;> omega
    · simp only [List.map_cons, List.map_nil, List.mem_cons, List.not_mem_nil, or_false] at hb
      subst hb; show h.objs.size + 2 ≠ _; omega
end
end Mine
end
section
open PySem PySem.W PySem.W.X PyProof.Rows PySem.Calls
set_option maxRecDepth 100000
namespace Mine
section
variable {w : World} {mg mb : Str → Option Value} {g : Array GenState} {d : Drawn} {os : OsState}
theorem szs_at (ns : List Int) (i : Nat) (h : i < ns.length) : (szs ns).getD i 0 = absI (ns.getD i 0) := by
  unfold szs
  rw [List.getD_eq_getElem?_getD, List.getD_eq_getElem?_getD, List.getElem?_map, List.getElem?_eq_getElem h]
  rfl
theorem Sta.addsE {h₀ h h' : Heap} {L : Addr} {m : Str → Option Value} {ow fs : Facts} (S : Sta [] h₀ L m ow h) (G : Gr [] h h') (hf : Has fs h') (hn : ∀ p ∈ fs, h.get? p.1 = none) (hp : (fs.map (·.1)).Pairwise (· ≠ ·)) : Sta [] h₀ L m (fs ++ ow) h' := S.adds G hn hf hp
theorem plain_snoc {h : Heap} {a : Addr} {ys : List Value} {v : Value} (pl : h.PlainList a (ys.toArray.push v)) : ∃ k, h.get? a = some (lst (ys ++ [v]) k) := by
  obtain ⟨k', hoe⟩ := pl
  exact ⟨k', by rw [hoe]; simp⟩
set_option maxHeartbeats 4000000 in
theorem small_spec {A : Around} {E : Value → Shared → Prop} {l : Addr} {vs : List Value} {ns : List Int} {h : Heap} {t : Nat} (R : RoomN 3 30 A) (W : Wd w mg mb h) (hl : h.IsList l vs.toArray) (hi : IntsAre vs ns) (h5 : ns.length = 5) :
    wpAny (MM w) A (call (.ref 57) [.ref l]) (Back [] g d os h fun v h' => ∃ D ys k, v = .ref D ∧ h.get? D = none ∧ h'.get? D = some (lst ys k) ∧ IntsAre ys (smallOf ns)) E ⟨h, g, d, t, os⟩ := by
  have hvl := hi.length
  refine wpAny_call (codeAny_call_cells (binds := [("numbers", .ref l)]) R.lim (W.k 57 _ rfl) rfl W.lim (codeRec_of W.k rfl) rfl rfl rfl (fun x hx => by rw [List.mem_singleton.mp hx]; exact .inl rfl) (fun s₁ x => ?_))
  obtain ⟨h₁, t₁, o1, o2, o3, rfl, S₁, hd1, hd2, hd3⟩ := sta_cell3 (n1 := "sizes") (n2 := "k") (n3 := "turns") x (by decide) (by decide) (by decide)
  have W₁ := W.gr Tabs.nil S₁.gr
  refine wp_gen2 fun Qf Ef hQf => ?_
  refine wpAny_execs_cons (wp_gen fun Qs hQs => ?_)
  refine wpAny_Assign_Name ?_
  rw [eval_ListComp]
  refine wpAny_comprehension_free (cl := []) rfl (fun _ => rfl) rfl rfl (by decide) ?_
  refine n_loc S₁ rfl ?_
  refine wpAny_pyIter_list (list_all hl S₁.all) ?_
  refine comp_eval (El := fun i _ y f => f = [] ∧ ∃ tk, y = .int ((szs ns).getD i 0) tk) (No := fun _ _ => False) (hb := h₁) (Itr.list (by exact R.h) h₁.objs.size l vs) (fun h' G => list_all (list_all hl S₁.all) G.all) (by omega) (Gr.push _ _ _) (size_none _) (Heap.get?_push_size _ rfl) ⟨rfl, rfl⟩ ?turn1 ?fin1 (by decide) rfl rfl
  case turn1 =>
    intro C i v m' ow' h' t' E'' nC hin pv S' hm'
    refine tests_nil ⟨h', t', rfl, Gr.refl _ _, ?_⟩
    simp only [if_true]
    have W' := W₁.gr Tabs.nil S'.gr
    obtain ⟨tk, e⟩ := ints_get hi (i := i) (by omega)
    rw [e] at pv; cases pv
    refine wpAny_Call_Name_kw ?_
    refine n_blt W' rfl rfl ?_
    refine c_call keeps_blt ?_
    refine wpAny_items_cons (n_loc S' hm' ?_)
    refine wpAny_items_nil ⟨trivial, ?_⟩
    refine call_abs_int fun u tk' => ?_
    refine ⟨h', _, [], rfl, Gr.refl _ _, ⟨rfl, u, ?_⟩, (fun _ h => nomatch h), List.Pairwise.nil, (fun _ h => nomatch h)⟩
    rw [szs_at ns i (by omega)]; rfl
  case fin1 =>
    intro D1 h₂ t₂ ys1 fs1 k1 md1 G₂ hh2 hn2 hp2
    obtain ⟨hy1, rfl⟩ := made_ints md1 (fun i => (szs ns).getD i 0) (fun i v y f hi pv x => x) (fun _ _ h => h)
    have hlsz : (szs ns).length = ns.length := by unfold szs; rw [List.length_map]
    rw [hvl, ← hlsz] at hy1
    have erng : (List.range (szs ns).length).map (fun i => (szs ns).getD i 0) = szs ns := (map_range_getD (szs ns) id).trans (List.map_id _)
    rw [erng] at hy1
    have S₂ := S₁.addsE G₂ hh2 hn2 hp2
    simp only [List.nil_append, List.singleton_append] at S₂
    refine s_cell (c := h.objs.size + 1) (oc := o1) S₂ 1 rfl hd1 ?_
    intro h₃ oc1 hcd1 S₃
    have W₃ := W.gr Tabs.nil S₃.gr
    have L₃ := S₃.own _ (.head _)
    have C₃ := S₃.own _ (.tail _ (.head _))
    refine hQs _ _ ?_
    try dsimp only
    refine wpAny_execs_cons (wp_gen fun Qs hQs => ?_)
    refine wpAny_Assign_Name ?_
    rw [eval_ListComp]
    refine wpAny_comprehension_free (cl := [("sizes", h.objs.size + 1)]) rfl (fun _ => rfl) rfl rfl (by decide) ?_
    refine wpAny_Call_Name_kw ?_
    refine n_blt W₃ rfl rfl ?_
    refine c_call keeps_type ?_
    refine wpAny_items_cons ?_
    refine wpAny_Constant_int ?_
    refine wpAny_items_nil ⟨trivial, ?_⟩
    refine pyIter_range (n := 5) (by decide) fun I h₄ t₄ G₄ nI hI => ?_
    refine comp_eval (El := fun i _ y f => f = [] ∧ ∃ tk, y = .int (tnOf ns i) tk) (No := fun _ _ => False) (hb := h₃) (Itr.range (by exact R.h) I 5) (fun _ _ => trivial) (by decide) G₄ nI hI rfl ?turn2 ?fin2 (by decide) rfl rfl
    case turn2 =>
      rintro C i v m' ow' h' t' E'' nC hin ⟨tv, rfl⟩ S' hm'
      refine tests_nil ⟨h', t', rfl, Gr.refl _ _, ?_⟩
      simp only [if_true]
      have L' := S'.all _ _ L₃
      have C' := S'.all _ _ C₃
      refine m_call F.plainAttrs_list F.slot_list_count F.type_list_count ?_
      refine Subscript_ ?_
      refine n_cell (c := h.objs.size + 1) C' hcd1 ?_
      refine wpAny_Slice (wpAny_pure ?_)
      rw [evalPart_some]
      refine wpAny_BinOp (n_loc S' hm' (wpAny_Constant_int (add_int ?_)))
      refine wpAny_pure ?_
      refine slice_tail (lst_is L') .none (.int _ _) (by rw [List.size_toArray, hy1.length, hlsz, sizeLine_eq]; omega) fun D2 h₅ G₅ nD2 hD2 => ?_
      rw [show ((i : Int) + 1) = ((i + 1 : Nat) : Int) from rfl, slicePick_upto'] at hD2
      have e60 : (ys1.toArray.toList.take (i + 1)).toArray.toList = ys1.take (i + 1) := by simp
      rw [e60] at hD2
      refine ⟨(lst_is hD2).typeIs, no_dict hD2 rfl, ?_⟩
      refine wpAny_items_cons ?_
      refine Subscript_ ?_
      refine n_cell (c := h.objs.size + 1) (G₅.all _ _ C') hcd1 ?_
      refine n_loc (S'.grow G₅) hm' ?_
      obtain ⟨tk, e⟩ := ints_get hy1 (i := i) (by omega)
      refine item_list (v := .int ((szs ns).getD i 0) tk) (lst_is (G₅.all _ _ L')) (by omega) (by omega) (by simpa using e) ?_
      refine wpAny_items_nil ?_
      refine count_list_ints (lst_is hD2) (hy1.take (i + 1)) ?_
      exact ⟨h₅, _, [], rfl, G₅, ⟨rfl, _, rfl⟩, (fun _ h => nomatch h), List.Pairwise.nil, (fun _ h => nomatch h)⟩
    case fin2 =>
      intro D2 h₅ t₅ ys2 fs2 k2 md2 G₅ hh5 hn5 hp5
      obtain ⟨hy2, rfl⟩ := made_ints md2 (fun i => tnOf ns i) (fun i v y f hi pv x => x) (fun _ _ h => h)
      have S₅ := S₃.addsE G₅ hh5 hn5 hp5
      simp only [List.nil_append, List.singleton_append] at S₅
      refine s_cell (c := h.objs.size + 3) (oc := o3) S₅ 4 rfl hd3 ?_
      intro h₆ oc3 hcd3 S₆
      have W₆ := W.gr Tabs.nil S₆.gr
      refine hQs _ _ ?_
      try dsimp only
      refine wpAny_execs_cons (wp_gen fun Qs hQs => ?_)
      refine wpAny_Assign_Name ?_
      refine wpAny_List ?_
      refine wpAny_items_nil ⟨by show 0 ≤ sizeLine; decide, ?_⟩
      refine s_loc (S₆.push (lst [] 0) rfl) fun h₇ S₇ => ?_
      have W₇ := W.gr Tabs.nil S₇.gr
      refine hQs _ _ ?_
      try dsimp only
      refine wpAny_execs_cons (wp_gen fun Qr hQr => ?_)
      refine wpAny_For ?_
      refine wpAny_Call_Name_kw ?_
      refine n_blt W₇ rfl rfl ?_
      refine c_call keeps_type ?_
      refine wpAny_items_cons ?_
      refine wpAny_Constant_int ?_
      refine wpAny_items_nil ⟨trivial, ?_⟩
      refine pyIter_range (n := 5) (by decide) fun I h₈ t₈ G₈ nI hI => ?_
      have S₈ := (S₇.add G₈ nI hI).toEnd
      have hlk : ∀ i, i < 5 → ∃ tk, ys1[i]? = some (.int ((szs ns).getD i 0) tk) := fun i hlt => ints_get hy1 (by omega)
      have htk : ∀ i, i < 5 → ∃ tk, ys2[i]? = some (.int (tnOf ns i) tk) := fun i hlt => by
        obtain ⟨tk, e⟩ := ints_get hy2 (i := i) (by simpa using hlt)
        have e2 : ((List.range 5).map (fun i => tnOf ns i)).getD i 0 = tnOf ns i := by
          rw [List.getD_eq_getElem?_getD, List.getElem?_map, List.getElem?_range hlt]; rfl
        rw [e2] at e
        exact ⟨tk, e⟩
      refine for_loop (J := fun i m ow => ∃ ys kk oc2 cv, ow = [(h₆.objs.size, lst ys kk), (D2, lst ys2 k2), (D1, lst ys1 k1), (h.objs.size + 1, oc1), (h.objs.size + 2, oc2), (h.objs.size + 3, oc3)] ∧ oc2.data = .cell cv ∧ m "small" = some (.ref h₆.objs.size) ∧ m "numbers" = some (.ref l) ∧ IntsAre ys ((smallOf ns).take i))
        (Itr.range (by exact R.h) I 5) (fun _ _ => trivial) S₈ rfl ⟨_, _, _, _, rfl, hd2, rfl, rfl, .nil⟩ ?turn ?fin (fun v => rfl)
      case fin =>
        rintro h' t' m ow ⟨ys, kk, oc2, cv, rfl, _, msm, _, hys⟩ S
        have e5 : (smallOf ns).take 5 = smallOf ns := List.take_of_length_le (by unfold smallOf; simp)
        rw [e5] at hys
        refine hQr _ _ ?_
        try dsimp only
        refine wpAny_execs_cons (wpAny_Return_some (n_loc S msm ?_))
        refine hQf _ _ ?_
        exact ⟨h', _, rfl, S.gr, h₆.objs.size, ys, kk, rfl, (S.gt _ (.head _)).2, S.own _ (.head _), hys⟩
      case turn =>
        rintro i v m ow oI hc tc E' hin ⟨tv, rfl⟩ ⟨ys, kk, oc2, cv, rfl, hcv, msm, mnum, hys⟩ S
        refine wpAny_assign_Name ?_
        refine s_cell (c := h.objs.size + 2) (oc := oc2) S 4 rfl hcv ?_
        intro h9 oc9 hd9 S9
        have W9 := W.gr Tabs.nil S9.gr
        have A9 := S9.own (D2, lst ys2 k2) (.tail _ (.head _))
        have B9 := S9.own (D1, lst ys1 k1) (.tail _ (.tail _ (.head _)))
        have C9 := S9.own (h.objs.size + 1, oc1) (.tail _ (.tail _ (.tail _ (.head _))))
        have D9 := S9.own (h.objs.size + 2, oc9) (.tail _ (.tail _ (.tail _ (.tail _ (.head _)))))
        have F9 := S9.own (h.objs.size + 3, oc3) (.tail _ (.tail _ (.tail _ (.tail _ (.tail _ (.head _))))))
        refine wp_gen fun Qb hQb => ?_
        refine wpAny_execs_cons (wp_gen fun Qs hQs => ?_)
        refine asg_exec (cl := [("turns", h.objs.size + 3), ("sizes", h.objs.size + 1), ("k", h.objs.size + 2)]) rfl rfl rfl (by decide) ?_
        refine wpAny_Call_Name_kw ?_
        refine n_blt W9 rfl rfl ?_
        refine c_call keeps_type ?_
        refine wpAny_items_cons ?_
        refine wpAny_Constant_int ?_
        refine wpAny_items_nil ⟨trivial, ?_⟩
        refine pyIter_range (n := 5) (by decide) fun I2 ha ta Ga nIa hIa => ?_
        refine asg_comp (El := fun j _ y f => f = [] ∧ belowP ns i j = true) (No := fun j _ => belowP ns i j = false) S9 rfl (Itr.range (by exact R.h) I2 5) (fun _ _ => trivial) (by decide) Ga nIa hIa rfl ?turn3 ?fin3 (by decide) rfl rfl rfl rfl
        case turn3 =>
          rintro C j v m' ow' h' t' E'' nC hjn ⟨tj, rfl⟩ S' hm'
          have A' := S'.all _ _ A9
          have B' := S'.all _ _ B9
          have C' := S'.all _ _ C9
          have D' := S'.all _ _ D9
          have F' := S'.all _ _ F9
          obtain ⟨tk1, e1⟩ := hlk j hjn
          obtain ⟨tk2, e2⟩ := hlk i hin
          obtain ⟨tk3, e3⟩ := htk j hjn
          obtain ⟨tk4, e4⟩ := htk i hin
          refine wpAny_mono (Q := fun ok s' => ok = belowP ns i j ∧ ∃ t'', s' = ⟨h', g, d, t'', os⟩) ?tst ?rest (fun _ _ e => e)
          case rest =>
            rintro ok s' ⟨rfl, t'', rfl⟩
            refine ⟨h', t'', rfl, Gr.refl _ _, ?_⟩
            cases hb : belowP ns i j with
            | false => simp only [Bool.false_eq_true, if_false]
            | true =>
              simp only [if_true]
              exact n_loc S' hm' ⟨h', _, [], rfl, Gr.refl _ _, ⟨rfl, trivial⟩, (fun _ h => nomatch h), List.Pairwise.nil, (fun _ h => nomatch h)⟩
          case tst =>
            refine tests_one ?_
            refine isTrue_and ?_
            refine isTrue_chain ?_
            refine wpAny_Constant_int ?_
            refine test_link ?_
            refine Subscript_ ?_
            refine n_cell (c := h.objs.size + 1) C' hcd1 ?_
            refine n_loc S' hm' ?_
            refine item_list (v := .int ((szs ns).getD j 0) tk1) (lst_is B') (by omega) (by omega) (by simpa using e1) ?_
            refine lt_int ?_
            refine wpAny_truthy_bool ?_
            unfold belowP
            cases hp1 : decide (0 < (szs ns).getD j 0) with
            | false => simp only [Bool.false_eq_true, if_false, Bool.false_and]; exact ⟨trivial, _, rfl⟩
            | true =>
              simp only [if_true, Bool.true_and]
              refine test_last ?_
              refine Subscript_ ?_
              refine n_cell (c := h.objs.size + 1) C' hcd1 ?_
              refine n_cell (c := h.objs.size + 2) D' hd9 ?_
              refine item_list (v := .int ((szs ns).getD i 0) tk2) (lst_is B') (by omega) (by omega) (by simpa using e2) ?_
              refine le_int ?_
              refine wpAny_truthy_bool ?_
              cases hp2 : decide ((szs ns).getD j 0 ≤ (szs ns).getD i 0) with
              | false => simp only [Bool.false_eq_true, if_false, Bool.false_and]; exact ⟨trivial, _, rfl⟩
              | true =>
                simp only [if_true, Bool.true_and]
                refine isTrue_and ?_
                refine wpAny_isTrue_Compare1 ?_
                refine Subscript_ ?_
                refine n_cell (c := h.objs.size + 3) F' hcd3 ?_
                refine n_loc S' hm' ?_
                refine item_list (v := .int (tnOf ns j) tk3) (lst_is A') (by omega) (by omega) (by simpa using e3) ?_
                refine Subscript_ ?_
                refine n_cell (c := h.objs.size + 3) F' hcd3 ?_
                refine n_cell (c := h.objs.size + 2) D' hd9 ?_
                refine item_list (v := .int (tnOf ns i) tk4) (lst_is A') (by omega) (by omega) (by simpa using e4) ?_
                refine eq_int ?_
                refine wpAny_truthy_bool ?_
                cases hp3 : (tnOf ns j == tnOf ns i) with
                | false => simp only [Bool.false_eq_true, if_false]; exact ⟨trivial, _, rfl⟩
                | true => simp only [if_true]; exact isTrue_and_nil ⟨rfl, _, rfl⟩
        case fin3 =>
          intro D4 hb tb ysb fsb kb mdb Sb
          have hlb := made_count mdb (belowP ns i) (fun j v y f hj pv x => x.2) (fun j v hj pv x => x)
          have Sc := Sb.drop (ow' := [(D4, lst ysb kb)] ++ _) (List.Sublist.append_right (List.sublist_append_right _ _) _)
          have Wc := W.gr Tabs.nil Sc.gr
          have Lc := Sc.own (D4, lst ysb kb) (.head _)
          have Mc := Sc.own (h₆.objs.size, lst ys kk) (.tail _ (.head _))
          have Dc := Sc.own (h.objs.size + 2, oc9) (.tail _ (.tail _ (.tail _ (.tail _ (.tail _ (.head _))))))
          have hb5 : ysb.length ≤ 5 := by
            rw [hlb]; exact Nat.le_trans (List.length_filter_le _ _) (by simp)
          obtain ⟨tn, en⟩ := ints_get hi (i := i) (by omega)
          refine hQs _ _ ?_
          try dsimp only
          refine wpAny_execs_cons (wp_gen fun Qs hQs => ?_)
          refine wpAny_Expr (m_call F.plainAttrs_list F.slot_list_append F.type_list_append ?_)
          refine n_loc Sc msm ⟨(lst_is Mc).typeIs, no_dict Mc rfl, ?_⟩
          refine wpAny_items_cons ?_
          refine wpAny_BinOp ?_
          refine wpAny_Call_Name_kw ?_
          refine n_glob Wc rfl ?_
          refine c_call keeps_fn ?_
          refine wpAny_items_cons ?_
          refine Subscript_ ?_
          refine n_loc Sc mnum ?_
          refine n_cell (c := h.objs.size + 2) Dc hd9 ?_
          refine item_list (v := .int (ns.getD i 0) tn) (list_all hl Sc.all) (by omega) (by omega) (by simpa using en) ?_
          refine wpAny_items_cons (wpAny_Constant_int ?_)
          refine wpAny_items_nil ⟨⟨_, _, Wc.k 45 _ rfl, rfl⟩, ?_⟩
          refine wpAny_mono (three_spec (RoomN.room (n := 2) (u := 27) R.deep) Wc) ?_ (fun _ _ e => e)
          rintro v s' ⟨hd, td, rfl, Gd, tk, rfl⟩
          have Sd := Sc.grow Gd
          have Wd' := W.gr Tabs.nil Sd.gr
          refine wpAny_Call_Name_kw ?_
          refine n_blt Wd' rfl rfl ?_
          refine c_call keeps_blt ?_
          refine wpAny_items_cons (n_loc Sd rfl ?_)
          refine wpAny_items_nil ⟨trivial, ?_⟩
          refine call_len_list (lst_is (Gd.all _ _ Lc)) (by rw [List.size_toArray]; omega) ?_
          refine mul_int ?_ (sg3_mul _ _ _)
          refine wpAny_items_nil ?_
          have hyl := hys.length
          refine wpAny_list_append_plain ⟨kk, Gd.all _ _ Mc⟩ (fun he pl sbe => ?_) (by rw [List.size_toArray, hyl, List.length_take, sizeLine_eq]; omega)
          obtain ⟨k', hoe'⟩ := plain_snoc pl
          have Se := Sd.upd 1 (by rfl) sbe hoe'
          refine hQs _ _ ?_
          dsimp only
          refine wpAny_execs_nil ?_
          refine hQb _ _ ?_
          refine ⟨he, _, _, _, rfl, rfl, Se.drop (ow' := _ ++ [(I, oI)]) (List.sublist_cons_self _ _), _, k', oc9, _, rfl, hd9, msm, mnum, ?_⟩
          have e6 : (smallOf ns)[i]? = some (sg3 (ns.getD i 0) 0 * ((ysb.toArray.size : Nat) : Int)) := by
            unfold smallOf
            rw [List.getElem?_map, List.getElem?_range hin, List.size_toArray, hlb]; rfl
          rw [List.take_add_one, e6]
          exact hys.append (.cons _ _ .nil)
end
end Mine
end
section
open PySem PySem.W PySem.W.X PyProof.Rows PySem.Calls
set_option maxRecDepth 100000
namespace Mine
/-- no code, no table -/
noncomputable def Off (o : Obj) : Prop := (∀ q, ¬ CodeOb o q) ∧ (∀ ps : Array Value, o = tabObj ps → ¬ TriplesOk ps.toList) ∧ ¬ (o.cls = .type "code" ∧ ∃ vs, o.data = .fields vs)
theorem off_data {o : Obj} (h : ∀ vs, o.data ≠ .fields vs) : Off o :=
  ⟨fun q ⟨vs, _, e, _⟩ => h vs e, fun ps e => absurd (by rw [e]) (h ps), fun ⟨_, vs, e⟩ => h vs e⟩
theorem off_iter {o : Obj} {l : Addr} {i : Int} {t : Tok} (hc : o.cls = .type "list_iterator") (hd : o.data = .fields #[.ref l, .int i t]) : Off o := by
  refine ⟨fun q ⟨vs, tq, e, e'⟩ => ?_, fun ps e => ?_, fun ⟨e, _⟩ => ?_⟩
  · rw [hd] at e; cases e; cases e'
  · rw [e] at hc; cases hc
  · rw [hc] at e; injection e with e; exact absurd e (by decide)
theorem tab_ne {h : Heap} {z a : Addr} {o : Obj} {ps : Array Value} (e : h.get? z = some (tabObj ps)) (ht : TriplesOk ps.toList) (ea : h.get? a = some o) (f : Off o) : z ≠ a := fun q => by
  rw [q, ea] at e
  exact f.2.1 ps (Option.some.inj e) ht
theorem code_ne {h : Heap} {z a : Addr} {o oc : Obj} {q : Str} (e : h.get? z = some oc) (hc : CodeOb oc q) (ea : h.get? a = some o) (f : Off o) : z ≠ a := fun y => by
  rw [y, ea] at e; cases e
  exact f.1 q hc
theorem ClsSt.but {h h' : Heap} {a : Addr} {o : Obj} (x : ClsSt h) (ea : h.get? a = some o) (f : Off o) (hx : Heap.ExtBut a h h') : ClsSt h' := by
  rcases x with ⟨ps, e, ht, no⟩ | ⟨c, P, ⟨ps, e, ht, yes⟩, X⟩
  · exact .inl ⟨ps, hx _ _ (tab_ne e ht ea f) e, ht, no⟩
  · refine .inr ⟨c, P, ⟨ps, hx _ _ (tab_ne e ht ea f) e, ht, yes⟩, ⟨?_, X.n1, X.n2, X.n3, X.n4, X.n5, ?_⟩⟩
    · obtain ⟨oc, vs, file, tf, flags, tg, inF, text, tt, e1, e2, e3, r⟩ := X.hd
      refine ⟨oc, vs, file, tf, flags, tg, inF, text, tt, hx _ _ (fun y => ?_) e1, e2, e3, r⟩
      rw [y, ea] at e1; cases e1
      exact f.2.2 ⟨e2, vs, e3⟩
    · obtain ⟨ps', e', ht', _⟩ := id X.tab
      exact X.tab.ext (tab_ne e' ht' ea f) (fun c oc q e1 e2 => code_ne e1 e2 ea f) hx
structure WSt (h : Heap) : Prop where
  cls : ClsSt h
  tab : ∃ oz, h.get? 64 = some oz ∧ TabSt lamPos lamQ oz fun c oc => h.get? c = some oc
theorem WSt.at24 {h : Heap} (T : WSt h) : ∃ ps, h.get? 24 = some (tabObj ps) := by
  rcases T.cls with ⟨ps, e, _⟩ | ⟨_, _, ⟨ps, e, _⟩, _⟩ <;> exact ⟨ps, e⟩
theorem WSt.at64 {h : Heap} (T : WSt h) : ∃ ps, h.get? 64 = some (tabObj ps) := by
  obtain ⟨oz, e, ps, rfl, _⟩ := T.tab
  exact ⟨ps, e⟩
theorem WSt.gr {h h' : Heap} (T : WSt h) (k : ∀ b o, h.get? b = some o → h'.get? b = some o) : WSt h' := by
  refine ⟨T.cls.gr k, ?_⟩
  obtain ⟨oz, e, ps, rfl, ht, x⟩ := T.tab
  exact ⟨_, k _ _ e, ps, rfl, ht, x.imp id fun ⟨c, oc, e1, e2, e3⟩ => ⟨c, oc, e1, k _ _ e2, e3⟩⟩
theorem WSt.but {h h' : Heap} {a : Addr} {o : Obj} (T : WSt h) (ea : h.get? a = some o) (f : Off o) (hx : Heap.ExtBut a h h') : WSt h' := by
  refine ⟨T.cls.but ea f hx, ?_⟩
  obtain ⟨oz, e, ps, rfl, ht, x⟩ := T.tab
  exact ⟨_, hx _ _ (tab_ne e ht ea f) e, ps, rfl, ht, x.imp id fun ⟨c, oc, e1, e2, e3⟩ => ⟨c, oc, e1, hx _ _ (code_ne e2 e3 ea f) e2, e3⟩⟩
theorem WSt.g24 {h h' : Heap} (T : WSt h) (G : Gr [24] h h') (c : ClsSt h') : WSt h' := by
  refine ⟨c, ?_⟩
  obtain ⟨oz, e, ps, rfl, ht, x⟩ := T.tab
  obtain ⟨p24, e24⟩ := T.at24
  have ht24 : TriplesOk p24.toList := by
    rcases T.cls with ⟨ps, e, ht, _⟩ | ⟨_, _, ⟨ps, e, ht, _⟩, _⟩ <;> (rw [e] at e24; cases e24; exact ht)
  refine ⟨_, G.keep _ _ (by decide) e, ps, rfl, ht, x.imp id fun ⟨c, oc, e1, e2, e3⟩ => ⟨c, oc, e1, G.keep _ _ (fun y => ?_) e2, e3⟩⟩
  rw [List.mem_singleton.mp y, e24] at e2; cases e2
  exact tab_not_code ht24 e3
theorem WSt.g64 {h h' : Heap} {oz' oc : Obj} {c : Addr} (T : WSt h) (G : Gr [64] h h') (e : h'.get? 64 = some oz') (x : TabHit lamPos lamQ oz' c oc) (hc : h'.get? c = some oc) : WSt h' := by
  refine ⟨?_, oz', e, x.st hc⟩
  obtain ⟨p64, e64⟩ := T.at64
  have ht64 : TriplesOk p64.toList := by
    obtain ⟨oz, e, ps, rfl, ht, _⟩ := T.tab
    rw [e] at e64; cases e64; exact ht
  have ne : ∀ {b : Addr} {o : Obj}, b ≠ 64 → h.get? b = some o → h'.get? b = some o := fun n e => G.keep _ _ (by simpa using n) e
  rcases T.cls with ⟨ps, e, ht, no⟩ | ⟨c, P, ⟨ps, e, ht, yes⟩, X⟩
  · exact .inl ⟨ps, ne (by decide) e, ht, no⟩
  · refine .inr ⟨c, P, ⟨ps, ne (by decide) e, ht, yes⟩, ⟨?_, X.n1, X.n2, X.n3, X.n4, X.n5, ?_⟩⟩
    · obtain ⟨oc, vs, file, tf, flags, tg, inF, text, tt, e1, e2, r⟩ := X.hd
      refine ⟨oc, vs, file, tf, flags, tg, inF, text, tt, ne (fun y => ?_) e1, e2, r⟩
      rw [y, e64] at e1; cases e1; cases e2
    · obtain ⟨ps', e', ht', a, b⟩ := X.tab
      have nc : ∀ {c : Addr} {oc : Obj} {q : Str}, h.get? c = some oc → CodeOb oc q → c ≠ 64 := fun e1 e2 y => by
        rw [y, e64] at e1; cases e1; exact tab_not_code ht64 e2
      exact ⟨ps', ne X.n4 e', ht', fun k hk => (a k hk).imp id fun ⟨c, oc, e1, e2, e3, e4⟩ => ⟨c, oc, e1, ne (nc e2 e3) e2, e3, e4⟩, fun k hk => let ⟨c, oc, e1, e2, e3, e4⟩ := b k hk; ⟨c, oc, e1, ne (nc e2 e3) e2, e3, e4⟩⟩
noncomputable abbrev TT : List Addr := [24, 64]
theorem tabsTT : Tabs TT := fun t ht => by
  rcases List.mem_cons.mp ht with rfl | ht
  · exact .inl rfl
  · exact .inr (List.mem_singleton.mp ht)
theorem WSt.live {h : Heap} (T : WSt h) : Live TT h := fun z hz => by
  obtain ⟨p, e⟩ := T.at24
  obtain ⟨p', e'⟩ := T.at64
  rcases List.mem_cons.mp hz with rfl | hz
  · exact ⟨_, e⟩
  · rw [List.mem_singleton.mp hz]; exact ⟨_, e'⟩
theorem Gr.up {ts ts' : List Addr} {h h' : Heap} (G : Gr ts h h') (s : ∀ a ∈ ts, a ∈ ts') : Gr ts' h h' := ⟨fun b o n e => G.keep b o (fun y => n (s b y)) e⟩
theorem up24 : ∀ a ∈ ([24] : List Addr), a ∈ TT := by decide
theorem up64 : ∀ a ∈ ([64] : List Addr), a ∈ TT := by decide
section
variable {h₀ h h' : Heap} {L : Addr} {m : Str → Option Value} {ow : Facts}
theorem Sta.toT (S : Sta [] h₀ L m ow h) : Sta TT h₀ L m ow h := ⟨S.gr.weak, S.lo, S.ns, S.own, S.gt, S.ord⟩
theorem Sta.pushT (S : Sta TT h₀ L m ow h) (lv₀ : Live TT h₀) (lv : Live TT h) (o : Obj) (hf : o.isFreed = false) : Sta TT h₀ L m ((h.objs.size, o) :: ow) (h.push o) :=
  S.addsT (fs := [(h.objs.size, o)]) lv₀ lv (Gr.push _ _ _) (fun p hp => by rw [List.mem_singleton.mp hp]; exact size_none h) (fun p hp => by rw [List.mem_singleton.mp hp]; exact Heap.get?_push_size _ hf) (List.pairwise_singleton _ _)
theorem Sta.oneT (S : Sta TT h₀ L m ow h) (lv₀ : Live TT h₀) (lv : Live TT h) {ts : List Addr} (G : Gr ts h h') (s : ∀ a ∈ ts, a ∈ TT) {a : Addr} {o : Obj} (n : h.get? a = none) (e : h'.get? a = some o) : Sta TT h₀ L m ((a, o) :: ow) h' :=
  S.addsT (fs := [(a, o)]) lv₀ lv (G.up s) (fun p hp => by rw [List.mem_singleton.mp hp]; exact n) (fun p hp => by rw [List.mem_singleton.mp hp]; exact e) (List.pairwise_singleton _ _)
end
section
variable {w : World} {mg mb : Str → Option Value} {A : Around} {E : Value → Shared → Prop} {ts : List Addr} {h₀ h : Heap} {L : Addr} {m : Str → Option Value} {ow : Facts} {g : Array GenState} {d : Drawn} {t : Nat} {os : OsState} {env : Env} {x : Str} {v : Value} {pos : Pos}
theorem s_locW {Q : Unit → Shared → Prop} (S : Sta ts h₀ L m ow h) (T : WSt h) (q : ∀ h', Sta ts h₀ L (fun y => if y = x then some v else m y) ow h' → WSt h' → Q () ⟨h', g, d, t + 1, os⟩) (hL : env.locals = L := by rfl) (hl : env.kindOf x = some .local := by rfl)
    (hp : (env.scope.kind == .class || (env.scope.kind == .module && env.locals != env.globals)) = false := by rfl) : wpAny (MM w) A (storeName env x v) Q E ⟨h, g, d, t, os⟩ := by
  subst hL
  refine wpAny_storeName_local (m := m) hl S.ns (fun h' hn hs => q h' (S.set hn hs) ?_) hp
  obtain ⟨o, es, ep, e, hd, _⟩ := S.ns
  exact T.but e (off_data fun vs y => by rw [hd] at y; cases y) hs.extBut
theorem s_cellW {Q : Unit → Shared → Prop} {c : Addr} {oc : Obj} {v₀ : Option Value} (S : Sta ts h₀ L m ow h) (T : WSt h) (i : Nat) (hi : ow[i]? = some (c, oc)) (hd : oc.data = .cell v₀) (q : ∀ h' oc', oc'.data = .cell (some v) → Sta ts h₀ L m (ow.set i (c, oc')) h' → WSt h' → Q () ⟨h', g, d, t, os⟩)
    (hc : env.cells.lookup x = some c := by rfl) (hk : env.scope.kind = .function := by rfl) (hl : env.kindOf x = some .cell := by rfl) : wpAny (MM w) A (storeName env x v) Q E ⟨h, g, d, t, os⟩ := by
  have e := S.own _ (List.mem_of_getElem? hi)
  refine wpAny_storeName_cell hk hl hc ⟨oc, e, hd⟩ fun h' hv sb => ?_
  obtain ⟨o', ho', hd'⟩ := hv
  exact q h' o' hd' (S.upd i hi sb ho') (T.but e (off_data fun vs y => by rw [hd] at y; cases y) sb.extBut)
end
end Mine
end
section
set_option maxRecDepth 100000
namespace Mine
theorem five_of {ns : List Int} (h : ns.length = 5) : ∃ a b c d e, ns = [a, b, c, d, e] := by
  match ns, h with
  | [a, b, c, d, e], _ => exact ⟨a, b, c, d, e, rfl⟩
theorem ch_lit : CH = [[], [0], [1], [0, 1], [2], [0, 2], [1, 2], [0, 1, 2], [3], [0, 3], [1, 3], [0, 1, 3], [2, 3], [0, 2, 3], [1, 2, 3], [0, 1, 2, 3], [4], [0, 4], [1, 4], [0, 1, 4], [2, 4], [0, 2, 4], [1, 2, 4], [0, 1, 2, 4], [3, 4], [0, 3, 4], [1, 3, 4], [0, 1, 3, 4], [2, 3, 4], [0, 2, 3, 4], [1, 2, 3, 4], [0, 1, 2, 3, 4]] := by decide +kernel
theorem fold_dbl (F : List Int → Int) (G : Int → Int) (hF : ∀ c n, F (c ++ [n]) = G n + F c) : ∀ (ks : List Int) (s : List (List Int)), (ks.map G).foldl dbl (s.map F) = (ks.foldl (fun s k => s ++ s.map (· ++ [k])) s).map F
  | [], _ => rfl
  | k :: ks, s => by
    rw [List.map_cons, List.foldl_cons, List.foldl_cons, ← fold_dbl F G hF ks]
    congr 1
    unfold dbl
    rw [List.map_append, List.map_map, List.map_map]
    have : ((fun one => G k + one) ∘ F) = (F ∘ (· ++ [k])) := funext fun c => (hF c k).symm
    rw [this]
theorem sums_eq {ns : List Int} (h : ns.length = 5) : CH.map (fun c => c.foldl (fun told p => told + ns.getD p.toNat 0) 0) = doubled ns := by
  obtain ⟨a, b, c, d, e, rfl⟩ := five_of h
  have k := fold_dbl (fun y => y.foldl (fun told p => told + [a, b, c, d, e].getD p.toNat 0) 0) (fun p => [a, b, c, d, e].getD p.toNat 0) (fun c n => by simp only [List.foldl_append, List.foldl_cons, List.foldl_nil]; exact Int.add_comm _ _) [0, 1, 2, 3, 4] [[]]
  have q : ([0, 1, 2, 3, 4] : List Int).foldl (fun s k => s ++ s.map (· ++ [k])) [[]] = CH := by decide +kernel
  rw [q] at k
  exact k.symm
theorem doubled_len {ns : List Int} (h : ns.length = 5) : (doubled ns).length = 32 := by
  rw [← sums_eq h, List.length_map, ch_lit]; rfl
theorem absI_nat (n : Int) : absI n = (n.natAbs : Int) := by unfold absI; by_cases h : n < 0 <;> simp only [h, if_true, if_false] <;> omega
theorem small_len (ns : List Int) : (smallOf ns).length = 5 := by unfold smallOf; simp
theorem sg3_nat (n : Int) (k : Nat) : ((sg3 n 0 * (k : Int)).natAbs : Int) = nought (n.natAbs : Int) k := by
  unfold sg3 nought
  by_cases h1 : n > 0
  · rw [if_pos h1, if_neg (by omega), if_neg (by omega)]; omega
  · by_cases h2 : n < 0
    · rw [if_neg h1, if_pos h2, if_neg (by omega)]; omega
    · rw [if_neg h1, if_neg h2, if_pos (by omega)]; omega
theorem filt_len (p : Nat → Bool) : ((List.range 5).filter p).length = (p 0).toNat + (p 1).toNat + (p 2).toNat + (p 3).toNat + (p 4).toNat := by
  show ([0, 1, 2, 3, 4].filter p).length = _
  simp only [List.filter_cons, List.filter_nil]
  cases p 0 <;> cases p 1 <;> cases p 2 <;> cases p 3 <;> cases p 4 <;> rfl
theorem hit_eq (z v : Int) (t' t : Nat) : (decide (0 < z) && (decide (z ≤ v) && ((t' : Int) == (t : Int)))).toNat = hit z v t' t := by
  unfold hit ind
  by_cases h1 : 0 < z <;> by_cases h2 : z ≤ v <;> by_cases h3 : t' = t <;> simp [h1, h2, h3] <;> omega
end Mine
end
section
set_option maxRecDepth 100000
namespace Mine
theorem beq_ind (a b : Int) : (if (a == b) = true then 1 else 0) = ind (a = b) := by
  unfold ind
  by_cases h : a = b <;> simp [h]
theorem ind_self (a : Int) : ind (a = a) = 1 := if_pos rfl
theorem ind_true {i : Decidable True} : @ind True i = 1 := if_pos trivial
theorem cnt1 (a : Int) : [a].count a = 1 := by simp
theorem cnt2 (a b : Int) : [a, b].count b = tn2 a b := by
  simp only [List.count_cons, List.count_nil, beq_ind, ind_self, ind_true]; unfold tn2; omega
theorem cnt3 (a b c : Int) : [a, b, c].count c = tn3 a b c := by
  simp only [List.count_cons, List.count_nil, beq_ind, ind_self, ind_true]; unfold tn3; omega
theorem cnt4 (a b c d : Int) : [a, b, c, d].count d = tn4 a b c d := by
  simp only [List.count_cons, List.count_nil, beq_ind, ind_self, ind_true]; unfold tn4; omega
theorem cnt5 (a b c d e : Int) : [a, b, c, d, e].count e = tn5 a b c d e := by
  simp only [List.count_cons, List.count_nil, beq_ind, ind_self, ind_true]; unfold tn5; omega
section
variable (a b c d e : Int)
theorem szs5 : szs [a, b, c, d, e] = [(a.natAbs : Int), (b.natAbs : Int), (c.natAbs : Int), (d.natAbs : Int), (e.natAbs : Int)] := by
  unfold szs; simp only [List.map_cons, List.map_nil, absI_nat]
theorem tn_0 : tnOf [a, b, c, d, e] 0 = ((1 : Nat) : Int) := by
  unfold tnOf; rw [szs5]; exact congrArg _ (cnt1 _)
theorem tn_1 : tnOf [a, b, c, d, e] 1 = ((tn2 a.natAbs b.natAbs : Nat) : Int) := by
  unfold tnOf; rw [szs5]; exact congrArg _ (cnt2 _ _)
theorem tn_2 : tnOf [a, b, c, d, e] 2 = ((tn3 a.natAbs b.natAbs c.natAbs : Nat) : Int) := by
  unfold tnOf; rw [szs5]; exact congrArg _ (cnt3 _ _ _)
theorem tn_3 : tnOf [a, b, c, d, e] 3 = ((tn4 a.natAbs b.natAbs c.natAbs d.natAbs : Nat) : Int) := by
  unfold tnOf; rw [szs5]; exact congrArg _ (cnt4 _ _ _ _)
theorem tn_4 : tnOf [a, b, c, d, e] 4 = ((tn5 a.natAbs b.natAbs c.natAbs d.natAbs e.natAbs : Nat) : Int) := by
  unfold tnOf; rw [szs5]; exact congrArg _ (cnt5 _ _ _ _ _)
theorem below_eq (k : Nat) (v : Int) (t : Nat) (hv : (szs [a, b, c, d, e]).getD k 0 = v) (ht : tnOf [a, b, c, d, e] k = (t : Int)) :
    ((List.range 5).filter (belowP [a, b, c, d, e] k)).length = be a.natAbs b.natAbs c.natAbs d.natAbs e.natAbs v t := by
  rw [filt_len]
  unfold belowP be
  rw [hv, ht, tn_0, tn_1, tn_2, tn_3, tn_4, szs5]
  rw [← hit_eq, ← hit_eq, ← hit_eq, ← hit_eq, ← hit_eq]
  rfl
theorem small_sm : (smallOf [a, b, c, d, e]).map (fun n => (n.natAbs : Int)) = sm a.natAbs b.natAbs c.natAbs d.natAbs e.natAbs := by
  have e5 : smallOf [a, b, c, d, e] = [0, 1, 2, 3, 4].map fun k => sg3 ([a, b, c, d, e].getD k 0) 0 * (((List.range 5).filter (belowP [a, b, c, d, e] k)).length : Nat) := rfl
  rw [e5]
  simp only [List.map_cons, List.map_nil, sg3_nat]
  rw [below_eq a b c d e 0 a.natAbs 1 (by rw [szs5]; rfl) (tn_0 ..), below_eq a b c d e 1 b.natAbs _ (by rw [szs5]; rfl) (tn_1 ..), below_eq a b c d e 2 c.natAbs _ (by rw [szs5]; rfl) (tn_2 ..),
    below_eq a b c d e 3 d.natAbs _ (by rw [szs5]; rfl) (tn_3 ..), below_eq a b c d e 4 e.natAbs _ (by rw [szs5]; rfl) (tn_4 ..)]
  rfl
end
/-- the sizes that are not nought -/
noncomputable def nzsz (ns : List Int) : List Int := (ns.filter fun n => n != 0).map absI
theorem nzs_filter (ns : List Int) : nzs (ns.map fun n => (n.natAbs : Int)) = nzsz ns := by
  unfold nzs nzsz
  induction ns with
  | nil => rfl
  | cons n ns ih =>
    rw [List.map_cons]
    by_cases h : n = 0
    · subst h
      rw [List.filter_cons_of_neg (by decide), List.filter_cons_of_neg (by decide), ih]
    · have h1 : decide ((n.natAbs : Int) ≠ 0) = true := by rw [decide_eq_true_eq]; omega
      have h2 : (n != 0) = true := by rw [bne_iff_ne]; exact h
      rw [List.filter_cons_of_pos (p := fun n : Int => decide (n ≠ 0)) h1, List.filter_cons_of_pos (p := fun n : Int => n != 0) h2, List.map_cons, ih, absI_nat]
theorem alike_filter (l : List Int) : decide ((nzs l).filter (fun s => s != (nzs l).getD 0 0) = []) = true ↔ Alike l := by
  rw [decide_eq_true_eq, List.filter_eq_nil_iff]
  unfold Alike
  constructor
  · intro h x hx y hy
    have a := h x hx
    have b := h y hy
    simp only [bne_iff_ne, ne_eq, Decidable.not_not] at a b
    omega
  · intro h x hx
    cases hz : nzs l with
    | nil => rw [hz] at hx; cases hx
    | cons z r =>
      have := h x hx z (by rw [hz]; exact .head _)
      simp [this]
noncomputable def mostI (m : Nat) : Int := 2 ^ (5 - m) * ([1, 1, 2, 3, 6, 10] : List Int).getD m 0
/-- the law in plain words -/
theorem law_pure {ns σ₀ σ₁ : List Int} (h5 : ns.length = 5) (p₀ : σ₀.Perm (doubled ns)) (o₀ : σ₀.Pairwise (· ≤ ·)) (p₁ : σ₁.Perm (doubled (smallOf ns))) (o₁ : σ₁.Pairwise (· ≤ ·)) :
    runTop σ₀ ≤ runTop σ₁ ∧ runTop σ₁ ≤ mostI (nzsz ns).length ∧ decide (runTop σ₀ = mostI (nzsz ns).length) = decide ((nzsz ns).filter (fun s => s != (nzsz ns).getD 0 0) = []) ∧ decide (runTop σ₁ = mostI (nzsz ns).length) = decide ((nzsz ns).filter (fun s => s != (nzsz ns).getD 0 0) = []) := by
  obtain ⟨a, b, c, d, e, rfl⟩ := five_of h5
  have t₀ := (runTop_isTop p₀ o₀).abs
  have t₁ := (runTop_isTop p₁ o₁).abs
  rw [small_sm] at t₁
  have C := all5 a.natAbs b.natAbs c.natAbs d.natAbs e.natAbs (by omega) (by omega) (by omega) (by omega) (by omega) _ _ t₀ t₁
  obtain ⟨c1, c2, c3, c4⟩ := C
  have el : nzs [(a.natAbs : Int), (b.natAbs : Int), (c.natAbs : Int), (d.natAbs : Int), (e.natAbs : Int)] = nzsz [a, b, c, d, e] := nzs_filter [a, b, c, d, e]
  have al := alike_filter [(a.natAbs : Int), (b.natAbs : Int), (c.natAbs : Int), (d.natAbs : Int), (e.natAbs : Int)]
  rw [el] at c2 c3 c4 al
  refine ⟨c1, c2, ?_, ?_⟩
  · rw [Bool.eq_iff_iff, al, decide_eq_true_eq]; exact c3
  · rw [Bool.eq_iff_iff, al, decide_eq_true_eq]; exact c4
end Mine
end
section
open PySem PySem.W PySem.W.X PyProof.Rows PySem.Calls
set_option maxRecDepth 100000
namespace Mine
section
variable {w : World} {mg mb : Str → Option Value} {g : Array GenState} {d : Drawn} {os : OsState}
theorem ints_two {vs ws : List Value} {ns : List Int} (hi : IntsAre vs ns) (hj : IntsAre ws ns) (j : Nat) (h1 : j < vs.toArray.size) (h2 : j < ws.toArray.size) {A : Around} {s : Shared} : SeqAt.EqAt A s vs.toArray[j] ws.toArray[j] true := by
  have l1 := hi.length
  rw [List.size_toArray] at h1 h2
  obtain ⟨t, e⟩ := ints_get hi (i := j) (by omega)
  obtain ⟨u, e'⟩ := ints_get hj (i := j) (by omega)
  rw [List.getElem?_eq_getElem h1] at e
  rw [List.getElem?_eq_getElem h2] at e'
  have a : vs.toArray[j] = .int (ns.getD j 0) t := by simpa using Option.some.inj e
  have b : ws.toArray[j] = .int (ns.getD j 0) u := by simpa using Option.some.inj e'
  rw [a, b]
  have := (MeetsSeq.EqGives.int (ns.getD j 0) (ns.getD j 0) t u).at A s
  rw [beq_self_eq_true] at this
  exact this
theorem ne_same {A : Around} {E : Value → Shared → Prop} {Q : Value → Shared → Prop} {s : Shared} {l b : Addr} {vs ws : List Value} {ns : List Int} (hl : s.heap.IsList l vs.toArray) (hb : s.heap.IsList b ws.toArray) (hi : IntsAre vs ns) (hj : IntsAre ws ns) (hu : A.units < cLine)
    (q : Q (.bool false) s) : wpAny (MM w) A (compareOp .NotEq (.ref l) (.ref b)) Q E s := by
  have l1 := hi.length
  have l2 := hj.length
  have R := SeqAt.RcNeAt.lists (A := A) (e := fun _ => true) hl hb (by rw [List.size_toArray, List.size_toArray]; omega) hu (fun j h1 h2 => ints_two hi hj j h1 h2)
  refine R PR w E Q ?_
  have : ((List.range vs.toArray.size).all fun _ => true) = true := by simp
  rw [this]; exact q
theorem eq_nil {A : Around} {E : Value → Shared → Prop} {Q : Value → Shared → Prop} {s : Shared} {l b : Addr} {vs : List Value} {ns : List Int} (hl : s.heap.IsList l vs.toArray) (hb : s.heap.IsList b ([] : List Value).toArray) (hi : IntsAre vs ns) (hu : A.units < cLine)
    (q : Q (.bool (decide (ns = []))) s) : wpAny (MM w) A (compareOp .Eq (.ref l) (.ref b)) Q E s := by
  by_cases hn : ns = []
  · subst hn
    cases hi
    refine SeqAt.eq_listAt (e := fun _ => true) hl hb rfl hu (fun j h1 h2 => absurd h1 (by simp)) ?_
    exact q
  · rw [decide_eq_false hn] at q
    have hne : vs ≠ [] := fun y => by subst y; cases hi; exact hn rfl
    refine SeqAt.eq_list_lengthsAt hl hb ?_ hu q
    simp [hne]
theorem pow2 {A : Around} {E : Value → Shared → Prop} {Q : Value → Shared → Prop} {s : Shared} {k : Nat} {t u : Tok} (hk : k ≤ 5) (q : ∀ tk tt, Q (.int (2 ^ k) tk) { s with toks := tt }) : wpAny (MM w) A (binaryOp .Pow (.int 2 t) (.int (k : Int) u)) Q E s := by
  rcases k with _ | k
  · exact AutoIntOps.pow_0 (by decide) (by decide) (q _ _)
  · refine AutoIntOps.pow_4 (by omega) (by simp; omega) (by decide) (by decide) ?_ ?_
    · have : ∀ k : Fin 6, ¬Builtin.Int.intTooBig (((Builtin.Int.intBits 2 : Nat) : Int) * (k : Nat)) = true := by decide +kernel
      exact this ⟨k + 1, by omega⟩
    · have e : ((2 : Int) ^ (((k + 1 : Nat) : Int)).toNat) = 2 ^ (k + 1) := by rw [Int.toNat_natCast]
      rw [e]; exact q _ _
theorem most_ok {m : Nat} (hm : m ≤ 5) : IntMulOk (2 ^ (5 - m)) (([1, 1, 2, 3, 6, 10] : List Int).getD m 0) := by
  refine IntMulOk.of_left ?_
  have : ∀ k : Fin 6, Builtin.Int.intBits (2 ^ (5 - (k : Nat))) ≤ 64 := by decide +kernel
  exact this ⟨m, by omega⟩
theorem no_list {c c' : String} {dt dt' : Data} {sl : Array (Option Value)} {dd : Option Addr} (e : ({ cls := .type c, dict := dd, data := dt, slots := sl } : Obj) = { cls := .type c', data := dt' }) (n : (c == c') = false) : False := by
  injection e with e
  injection e with e
  subst e
  simp at n
set_option maxHeartbeats 1000000 in
/-- how often the sum that comes oftenest comes: the list that the run ends with -/
theorem top_spec {A : Around} {E : Value → Shared → Prop} {l i0 : Addr} {vs : List Value} {σ : List Int} {k0 : Nat} {t1 t2 t3 : Tok} {h : Heap} {t : Nat} (R : RoomN 4 30 A) (W : Wd w mg mb h) (hl : h.IsList l vs.toArray) (hi : IntsAre vs σ)
    (h0 : h.get? i0 = some (lst [.int (σ.headD 0) t1, .int 0 t2, .int 0 t3] k0)) :
    wpAny (MM w) A (call (.ref 38) [.ref 74, .ref l, .ref i0]) (Back [] g d os h fun v h' => ∃ a vs k, v = .ref a ∧ h'.get? a = some (lst vs k) ∧ ∃ tk, vs[2]? = some (.int (runTop σ) tk)) E ⟨h, g, d, t, os⟩ := by
  have n30 : i0 ≠ 30 := fun q => by
    have := W.k 30 _ rfl
    rw [q] at h0; rw [h0] at this
    exact no_list (Option.some.inj this).symm (by decide)
  refine wpAny_mono (reduce_spec (f := 74) (by exact R.h) R.lim W hl ⟨_, _, W.k 74 _ rfl, rfl⟩ (.inr ⟨i0, _, rfl, n30, h0, fun q => absurd q (by show ¬ (Value.type "list" = Value.type "tuple"); intro q; injection q with q; exact absurd q (by decide))⟩)
    (fun i v fs => ∃ a k t1 t2 t3, v = .ref a ∧ fs = [(a, lst [.int ((σ.take i).foldl runStep (σ.headD 0, 0, 0)).1 t1, .int ((σ.take i).foldl runStep (σ.headD 0, 0, 0)).2.1 t2, .int ((σ.take i).foldl runStep (σ.headD 0, 0, 0)).2.2 t3] k)]) [(i0, lst [.int (σ.headD 0) t1, .int 0 t2, .int 0 t3] k0)] ⟨i0, k0, t1, t2, t3, rfl, rfl⟩ (fun p hp => by rw [List.mem_singleton.mp hp]; exact h0) ?step) ?fin (fun _ _ e => e)
  case step =>
    rintro A' E' i x v fs h' t' hA1 hA2 hA3 hx G' ⟨a, k, u1, u2, u3, rfl, rfl⟩ hfs
    have hlt : i < σ.length := by rw [← hi.length]; exact (List.getElem?_eq_some_iff.mp hx).1
    obtain ⟨tn, en⟩ := ints_get hi hlt
    rw [en] at hx; cases hx
    refine wpAny_mono (run_spec ⟨hA1, by have := R.d; omega, by have := R.u; omega⟩ (W.gr Tabs.nil G') (hfs _ (.head _))) ?_ (fun _ _ e => e)
    rintro v' s' ⟨h'', t'', rfl, G'', fs', ⟨a', k', w1, w2, w3, rfl, rfl⟩, hf', hp', hn'⟩
    refine ⟨h'', t'', rfl, G'', _, ⟨a', k', w1, w2, w3, rfl, ?_⟩, hf', hp', hn'⟩
    have e1 : σ[i]? = some (σ.getD i 0) := by rw [List.getD_eq_getElem?_getD, List.getElem?_eq_getElem hlt]; rfl
    rw [List.take_add_one, e1, List.foldl_append]
    rfl
  case fin =>
    rintro v' s' ⟨h'', t'', rfl, G'', fs', ⟨a, k, u1, u2, u3, rfl, rfl⟩, hf'⟩
    rw [hi.length, List.take_length] at hf'
    exact ⟨h'', t'', rfl, G'', a, _, k, rfl, hf' _ (.head _), u3, rfl⟩
end
end Mine
end
section
open PySem PySem.W PySem.W.X PyProof.Rows PySem.Calls
set_option maxRecDepth 100000
namespace Mine
noncomputable def rowN (ns : List Int) (i : Nat) : List Int := if i = 0 then ns else smallOf ns
theorem rowN_len {ns : List Int} (h : ns.length = 5) (i : Nat) : (rowN ns i).length = 5 := by
  unfold rowN; split
  · exact h
  · exact small_len ns
theorem ch_in : ∀ c ∈ CH, ∀ k ∈ c, 0 ≤ k ∧ k < 5 := by rw [ch_lit]; decide
noncomputable def Topped (ns : List Int) (i : Nat) (ts : List Int) : Prop := ts.length = i ∧ ∀ j, j < i → ∃ σ : List Int, σ.Perm (doubled (rowN ns j)) ∧ σ.Pairwise (· ≤ ·) ∧ ts.getD j 0 = runTop σ
theorem Topped.nil (ns : List Int) : Topped ns 0 [] := ⟨rfl, fun j h => by omega⟩
theorem Topped.snoc {ns ts σ : List Int} {i : Nat} (x : Topped ns i ts) (p : σ.Perm (doubled (rowN ns i))) (o : σ.Pairwise (· ≤ ·)) : Topped ns (i + 1) (ts ++ [runTop σ]) := by
  refine ⟨by simp [x.1], fun j hj => ?_⟩
  by_cases h : j < i
  · obtain ⟨σ', a, b, c⟩ := x.2 j h
    refine ⟨σ', a, b, ?_⟩
    rw [← c, List.getD_eq_getElem?_getD, List.getD_eq_getElem?_getD, List.getElem?_append_left (by rw [x.1]; exact h)]
  · have : j = i := by omega
    subst this
    refine ⟨σ, p, o, ?_⟩
    rw [List.getD_eq_getElem?_getD, ← x.1]; simp
section
variable {w : World} {mg mb : Str → Option Value} {g : Array GenState} {d : Drawn} {os : OsState}
theorem s_cellL {A : Around} {E : Value → Shared → Prop} {Q : Unit → Shared → Prop} {ts : List Addr} {h₀ h : Heap} {L c : Addr} {m : Str → Option Value} {ow : Facts} {oc : Obj} {v₀ : Option Value} {t : Nat} {env : Env} {x : Str} {v : Value} (S : Sta ts h₀ L m (ow ++ [(c, oc)]) h) (T : WSt h) (hd : oc.data = .cell v₀)
    (q : ∀ h' oc', oc'.data = .cell (some v) → Sta ts h₀ L m (ow ++ [(c, oc')]) h' → WSt h' → Q () ⟨h', g, d, t, os⟩)
    (hc : env.cells.lookup x = some c := by rfl) (hk : env.scope.kind = .function := by rfl) (hl : env.kindOf x = some .cell := by rfl) : wpAny (MM w) A (storeName env x v) Q E ⟨h, g, d, t, os⟩ :=
  s_cellW S T ow.length (by simp) hd (fun h' oc' hd' S' T' => q h' oc' hd' (by simpa using S') T') hc hk hl
theorem sub_ints {A : Around} {E : Value → Shared → Prop} {Q : Value → Shared → Prop} {h : Heap} {t : Nat} {value slice : Expr} {a : Addr} {vals : List Value} {xs : List Int} {k : Int} {u : Tok} (hi : IntsAre vals xs) (hl : h.IsList a vals.toArray) (h0 : 0 ≤ k) (hk : k.toNat < xs.length) (hx : xs.length ≤ 1000)
    (q : ∀ tk, Q (.int (xs.getD k.toNat 0) tk) ⟨h, g, d, t, os⟩) (hs : subscripted slice false (.ref a) (.int k u) = operate [.ref a, .int k u] (getItem (.ref a) (.int k u)) := by with_unfolding_all rfl) :
    wpAny (MM w) A (subscriptTail value slice (.ref a) (.int k u)) Q E ⟨h, g, d, t, os⟩ := by
  obtain ⟨tk, e⟩ := ints_get hi (i := k.toNat) hk
  exact item_list (v := .int (xs.getD k.toNat 0) tk) hl h0 (by omega) (by simpa using e) (q tk) hs
theorem beq_dec (a b : Int) : (a == b) = decide (a = b) := by rw [Bool.eq_iff_iff]; simp
set_option maxHeartbeats 8000000 in
theorem law_spec {A : Around} {E : Value → Shared → Prop} {l : Addr} {vs : List Value} {ss : List Int} {h : Heap} {t : Nat} (R : RoomN 8 60 A) (W : Wd w mg mb h) (T : WSt h) (hl : h.IsList l vs.toArray) (hi : IntsAre vs ss) (hlen : vs.length ≤ 63) :
    wpAny (MM w) A (call (.ref 84) [.ref l]) (fun v s' => v = .bool true ∧ ∃ h' t', s' = ⟨h', g, d, t', os⟩ ∧ Gr TT h h' ∧ WSt h') E ⟨h, g, d, t, os⟩ := by
  refine wpAny_call (codeAny_call_cells (binds := [("script", .ref l)]) R.lim (W.k 84 _ rfl) rfl W.lim (codeRec_of W.k rfl) rfl rfl rfl (fun x hx => by rw [List.mem_singleton.mp hx]; exact .inl rfl) (fun s₁ x => ?_))
  obtain ⟨h₁, t₁, oc, rfl, S₁, hoc⟩ := sta_cell1 x
  have T₁ := T.gr S₁.all
  have W₁ := W.gr Tabs.nil S₁.gr
  have lv := T.live
  have hl₁ := list_all hl S₁.all
  replace S₁ := S₁.toT
  -- the numbers
  refine wp_gen2 fun Qf Ef hQf => ?_
  refine wpAny_execs_cons (wp_gen fun Qs hQs => ?_)
  refine wpAny_Assign_Name ?_
  refine wpAny_Call_Name_kw ?_
  refine n_glob W₁ rfl ?_
  refine c_call keeps_fn ?_
  refine wpAny_items_cons (n_loc S₁ rfl ?_)
  refine wpAny_items_nil ⟨⟨_, _, W₁.k 52 _ rfl, rfl⟩, ?_⟩
  refine wpAny_mono (numbers_spec (RoomN.le (n := 7) (u := 57) R.deep (by omega) (by omega)) W₁ hl₁ hi (by omega)) ?_ (fun _ _ e => e)
  rintro v s' ⟨h₂, t₂, rfl, G₂, Dn, on, nv, ns, rfl, nDn, hDn, ln, iN, n5⟩
  have S₂ := S₁.oneT lv T₁.live G₂ (fun _ h => nomatch h) nDn hDn
  have T₂ := T₁.gr G₂.all
  refine s_locW S₂ T₂ fun h₃ S₃ T₃ => ?_
  have W₃ := W.gr tabsTT S₃.gr
  -- the choices
  refine hQs _ _ ?_
  try dsimp only
  refine wpAny_execs_cons (wp_gen fun Qs hQs => ?_)
  refine wpAny_Assign_Name ?_
  refine wpAny_Call_Name_kw ?_
  refine n_glob W₃ rfl ?_
  refine c_call0 keeps_fn ⟨_, _, W₃.k 62 _ rfl, rfl⟩ ?_
  refine wpAny_mono (choices_spec (RoomN.le (n := 7) (u := 57) R.deep (by omega) (by omega)) W₃) ?_ (fun _ _ e => e)
  rintro v s' ⟨h₄, t₄, rfl, G₄, Dc, cvs, kc, fsC, rfl, hasC, newC, pwC, rowsC⟩
  have S₄ := S₃.addsT lv T₃.live G₄.weak newC hasC pwC
  have T₄ := T₃.gr G₄.all
  refine s_locW S₄ T₄ fun h₅ S₅ T₅ => ?_
  have W₅ := W.gr tabsTT S₅.gr
  -- the tops
  refine hQs _ _ ?_
  try dsimp only
  refine wpAny_execs_cons (wp_gen fun Qs hQs => ?_)
  refine wpAny_Assign_Name ?_
  refine wpAny_List ?_
  refine wpAny_items_nil ⟨by show 0 ≤ sizeLine; decide, ?_⟩
  have T₆ := T₅.gr (Gr.push [] h₅ (lst [] 0)).all
  refine s_locW (S₅.pushT lv T₅.live (lst [] 0) rfl) T₆ fun h₇ S₇ T₇ => ?_
  have W₇ := W.gr tabsTT S₇.gr
  have Dn₇ : (Dn, on) ∈ fsC ++ [(Dc, lst cvs kc)] ++ [(Dn, on), (h.objs.size + 1, oc)] := by simp
  have Nn₇ := S₇.own (Dn, on) (List.mem_cons_of_mem _ Dn₇)
  have eTp : h₅.objs.size = h₅.objs.size := rfl
  generalize h₅.objs.size = tp at *
  -- the rows
  refine hQs _ _ ?_
  try dsimp only
  refine wpAny_execs_cons (wp_gen fun Qr hQr => ?_)
  refine wpAny_For ?_
  refine wpAny_List ?_
  refine wpAny_items_cons (n_loc S₇ rfl ?_)
  refine wpAny_items_cons ?_
  refine wpAny_Call_Name_kw ?_
  refine n_glob W₇ rfl ?_
  refine c_call keeps_fn ?_
  refine wpAny_items_cons (n_loc S₇ rfl ?_)
  refine wpAny_items_nil ⟨⟨_, _, W₇.k 57 _ rfl, rfl⟩, ?_⟩
  refine wpAny_mono (small_spec (RoomN.le (n := 7) (u := 57) R.deep (by omega) (by omega)) W₇ (ln.is Nn₇) iN n5) ?_ (fun _ _ e => e)
  rintro v s' ⟨h₈, t₈, rfl, G₈, Ds, sv, ks, rfl, nDs, hDs, iS⟩
  have S₈ := S₇.oneT lv T₇.live G₈ (fun _ h => nomatch h) nDs hDs
  have T₈ := T₇.gr G₈.all
  refine wpAny_items_nil ⟨by show 2 ≤ sizeLine; decide, ?_⟩
  have S₉ := S₈.pushT lv T₈.live (lst [.ref Dn, .ref Ds] 0) rfl
  have T₉ := T₈.gr (Gr.push [] h₈ (lst [.ref Dn, .ref Ds] 0)).all
  have RL₉ := S₉.own _ (.head _)
  dsimp only at S₉ T₉ RL₉ ⊢
  generalize h₈.push (lst [.ref Dn, .ref Ds] 0) = h₉ at *
  generalize h₈.objs.size = RL at *
  refine wpAny_pyIter_list (lst_is RL₉) ?_
  have S₁₀ := S₉.pushT lv T₉.live (iterObj RL 0) rfl
  have T₁₀ := T₉.gr (Gr.push [] h₉ (iterObj RL 0)).all
  dsimp only at S₁₀ T₁₀ ⊢
  generalize h₉.push (iterObj RL 0) = h₁₀ at *
  generalize h₉.objs.size = I at *
  obtain ⟨base, hbase, hBn, hBc, hBf⟩ : ∃ base, fsC ++ [(Dc, lst cvs kc)] ++ [(Dn, on), (h.objs.size + 1, oc)] = base ++ [(h.objs.size + 1, oc)] ∧ (Dn, on) ∈ base ∧ (Dc, lst cvs kc) ∈ base ∧ ∀ p ∈ fsC, p ∈ base :=
    ⟨fsC ++ [(Dc, lst cvs kc)] ++ [(Dn, on)], by simp, by simp, by simp, fun p hp => by simp [hp]⟩
  rw [hbase] at S₁₀
  clear hbase Dn₇ Nn₇ S₉ S₈ S₇ S₅ S₄ S₃ S₂ S₁ T₉ T₈ T₇ T₆ T₅ T₄ T₃ T₂ T₁ W₇ W₅ W₃ W₁ G₈ G₄ G₂ hasC newC pwC hDn hDs nDn nDs x RL₉ eTp
  have c5 : ∀ i, ∀ c ∈ CH, ∀ k ∈ c, 0 ≤ k ∧ k < (rowN ns i).length := fun i c hc k hk => by rw [rowN_len n5]; exact ch_in c hc k hk
  refine codeAny_forLoop_any (fun j s => ∃ i m oi tv kt ts hc tc, s = ⟨hc, g, d, tc, os⟩ ∧ j = 3 - i ∧ i ≤ 2 ∧ Sta TT h h.objs.size m ((I, oi) :: (RL, lst [.ref Dn, .ref Ds] 0) :: (Ds, lst sv ks) :: (tp, lst tv kt) :: (base ++ [(h.objs.size + 1, oc)])) hc ∧ WSt hc ∧
    (oi.cls = .type "list_iterator" ∧ oi.data = .fields #[.ref RL, .int (i : Nat) 0]) ∧ m "choices" = some (.ref Dc) ∧ m "tops" = some (.ref tp) ∧ m "numbers" = some (.ref Dn) ∧ IntsAre tv ts ∧ Topped ns i ts) ?turn 3
    ⟨0, _, _, _, _, [], h₁₀, _, rfl, rfl, by decide, S₁₀, T₁₀, ⟨rfl, rfl⟩, rfl, rfl, rfl, .nil, Topped.nil ns⟩
  case turn =>
    clear S₁₀ T₁₀
    rintro j s ⟨i, m, oi, tv, kt, ts, hc, tc, rfl, rfl, hile, S, T, ⟨ic, id'⟩, mc, mt, mn, iT, tpd⟩
    have hRL := lst_is (S.own (RL, lst [.ref Dn, .ref Ds] 0) (by simp))
    have IT : hc.IsListIter I RL i := ⟨oi, S.own (I, oi) (by simp), ic, id'⟩
    by_cases hlt : i < 2
    · obtain ⟨a, oa, vr, ea, hma, lo, ir⟩ : ∃ a oa vr, ([Value.ref Dn, Value.ref Ds] : List Value).toArray[i]? = some (Value.ref a) ∧ (a, oa) ∈ (Ds, lst sv ks) :: base ∧ ListOb oa vr ∧ IntsAre vr (rowN ns i) := by
        have : i = 0 ∨ i = 1 := by omega
        rcases this with rfl | rfl
        · exact ⟨Dn, on, nv, rfl, List.mem_cons_of_mem _ hBn, ln, iN⟩
        · exact ⟨Ds, lst sv ks, sv, rfl, .head _, ⟨rfl, ks, rfl⟩, iS⟩
      have hma' : ∀ oi tv kt, (a, oa) ∈ (I, oi) :: (RL, lst [.ref Dn, .ref Ds] 0) :: (Ds, lst sv ks) :: (tp, lst tv kt) :: (base ++ [(h.objs.size + 1, oc)]) := fun oi tv kt => by
        rcases List.mem_cons.mp hma with y | y
        · rw [y]; simp
        · simp [y]
      refine wpAny_pyNext_list_item (x := .ref a) IT hRL ea fun h₁ IT₁ sb => ?_
      obtain ⟨o₁, ho₁, ic₁, id₁⟩ := IT₁
      have S₁ := S.upd 0 (by rfl) sb ho₁
      have T₁ := T.but (S.own (I, oi) (by simp)) (off_iter ic id') sb.extBut
      dsimp only at S₁ T₁ ⊢
      refine wpAny_of_eq (a := ()) rfl ?_
      refine wpAny_assign_Name (s_locW S₁ T₁ fun h₂ S₂ T₂ => ?_)
      have W₂ := W.gr tabsTT S₂.gr
      have rowA := fun {hx : Heap} (S : Has ((I, o₁) :: (RL, lst [.ref Dn, .ref Ds] 0) :: (Ds, lst sv ks) :: (tp, lst tv kt) :: (base ++ [(h.objs.size + 1, oc)])) hx) => lo.is (S (a, oa) (hma' _ _ _))
      try dsimp only
      refine wpAny_execs_cons (wp_gen fun Qs hQs => ?_)
      refine wpAny_Assign_Name ?_
      refine wpAny_Call_Name_kw ?_
      refine n_glob W₂ rfl ?_
      refine c_call keeps_fn ?_
      refine wpAny_items_cons (n_loc S₂ rfl ?_)
      refine wpAny_items_cons (n_loc S₂ mc ?_)
      refine wpAny_items_nil ⟨⟨_, _, W₂.k 67 _ rfl, rfl⟩, ?_⟩
      obtain ⟨oz, hz, stz⟩ := T₂.tab
      refine wpAny_mono (sums_spec (RoomN.le (n := 7) (u := 57) R.deep (by omega) (by omega)) W₂ (rowA S₂.own) ir (lst_is (S₂.own (Dc, lst cvs kc) (by simp [hBc]))) (rowsC.at fun p hp => S₂.own p (by simp [hBf p hp])) (c5 i) (by decide) (by decide) (by rw [rowN_len n5]; decide) hz stz) ?_ (fun _ _ e => e)
      rintro v s' ⟨h₃, t₃, Dm, mv, km, oz₃, c₃, oc₃, rfl, rfl, G₃, nDm, hDm, iM, hz₃, hit₃, hc₃, _, _⟩
      rw [sums_eq (rowN_len n5 i)] at iM
      have S₃ := S₂.oneT lv T₂.live G₃ up64 nDm hDm
      have T₃ := T₂.g64 G₃ hz₃ hit₃ hc₃
      refine s_locW S₃ T₃ fun h₄ S₄ T₄ => ?_
      have W₄ := W.gr tabsTT S₄.gr
      refine hQs _ _ ?_
      try dsimp only
      have ml := iM.length
      rw [doubled_len (rowN_len n5 i)] at ml
      refine wpAny_execs_cons (wp_gen fun Qs hQs => ?_)
      refine wpAny_Assign_Name ?_
      refine wpAny_Call_Name_kw ?_
      refine n_blt W₄ rfl rfl ?_
      refine callWith_kw ?_
      refine wpAny_items_cons (n_loc S₄ rfl ?_)
      refine wpAny_items_nil ?_
      refine evalAll_cons (wpAny_bind ?_)
      refine wpAny_Call_Name_kw ?_
      refine n_glob W₄ rfl ?_
      refine c_call keeps_fn ?_
      refine wpAny_items_cons (n_glob W₄ rfl ?_)
      refine wpAny_items_nil ⟨⟨_, _, W₄.k 29 _ rfl, rfl⟩, ?_⟩
      refine wpAny_mono (ctk_spec (RoomN.le (n := 7) (u := 57) R.deep (by omega) (by omega)) W₄ T₄.cls (let ⟨ps, e⟩ := T₄.at64; ⟨_, e⟩)) ?_ (fun _ _ e => e)
      rintro v s' ⟨K, fs, cm, h₅, t₅, rfl, rfl, G₅, kr, hasK, clsK, _⟩
      have S₅ := S₄.growT lv (G₅.up up24)
      have T₅ := T₄.g24 G₅ clsK
      have W₅ := W.gr tabsTT S₅.gr
      refine wpAny_bind (wpAny_standAt (wpAny_pure ?_))
      refine evalAll_nil ?_
      have Dm₅ := S₅.own (Dm, lst mv km) (.head _)
      refine sortk_spec (RoomN.le (n := 7) (u := 57) R.deep (by omega) (by omega)) W₅ kr hasK (lst_is Dm₅) iM (by omega) (by omega) ?_
      intro Do h₆ t₆ ov σ ko G₆ nDo hDo iO pO oO
      have S₆ := S₅.oneT lv T₅.live G₆ (fun _ h => nomatch h) nDo hDo
      have T₆ := T₅.gr G₆.all
      refine s_locW S₆ T₆ fun h₇ S₇ T₇ => ?_
      have W₇ := W.gr tabsTT S₇.gr
      have Dm₇ := S₇.own (Dm, lst mv km) (.tail _ (.head _))
      have Do₇ := S₇.own (Do, lst ov ko) (.head _)
      have ol := iO.length
      have pl := pO.length_eq
      rw [doubled_len (rowN_len n5 i)] at pl
      refine hQs _ _ ?_
      try dsimp only
      -- as doubling tells, and as sorting tells
      refine wpAny_execs_cons (wp_gen fun Qs hQs => ?_)
      refine wpAny_If ?_
      refine isTrue_or ?_
      refine wpAny_isTrue_Compare1 ?_
      refine n_loc S₇ rfl ?_
      refine wpAny_Call_Name_kw ?_
      refine n_glob W₇ rfl ?_
      refine c_call keeps_fn ?_
      refine wpAny_items_cons (n_loc S₇ rfl ?_)
      refine wpAny_items_nil ⟨⟨_, _, W₇.k 79 _ rfl, rfl⟩, ?_⟩
      refine wpAny_mono (doubled_spec (RoomN.le (n := 7) (u := 57) R.deep (by omega) (by omega)) W₇ (rowA fun p hp => S₇.own p (.tail _ (.tail _ hp))) ir (by rw [rowN_len n5]; exact Nat.le_refl _)) ?_ (fun _ _ e => e)
      rintro v s' ⟨h₈, t₈, rfl, G₈, Dd, dv, kd, rfl, nDd, hDd, iD⟩
      have S₈ := S₇.growT lv G₈.weak
      have T₈ := T₇.gr G₈.all
      have W₈ := W.gr tabsTT S₈.gr
      have uA : A.units + 3 < cLine := by have := R.u; show A.units + 3 < 9900; omega
      refine ne_same (lst_is (G₈.all _ _ Dm₇)) (lst_is hDd) iM iD uA ?_
      refine wpAny_truthy_bool ?_
      simp only [Bool.false_eq_true, if_false]
      refine isTrue_or ?_
      refine wpAny_isTrue_Compare1 ?_
      refine n_loc S₈ rfl ?_
      refine wpAny_Call_Name_kw ?_
      refine n_blt W₈ rfl rfl ?_
      refine c_call keeps_blt ?_
      refine wpAny_items_cons (n_loc S₈ rfl ?_)
      refine wpAny_items_nil ⟨trivial, ?_⟩
      refine sorted_ints (lst_is (G₈.all _ _ Dm₇)) iM (by omega) ?_
      intro out ns' iOut pOut oOut
      have eO : ns' = σ := List.Perm.eq_of_pairwise (le := (· ≤ ·)) (fun a b _ _ x y => Int.le_antisymm x y) oOut oO (pOut.trans pO.symm)
      subst eO
      obtain ⟨ke, hDe⟩ := sortedAll_at h₈ mv out
      have G₉ : Gr [] h₈ (sortedAll h₈ mv out) := Gr.of fun b o e => sortedAll_old e
      have S₉ := S₈.growT lv G₉.weak
      have T₉ := T₈.gr G₉.all
      dsimp only
      generalize sortedAll h₈ mv out = h₉ at *
      refine ne_same (ws := out.toList) (lst_is (S₉.own (Do, lst ov ko) (.head _))) (lst_is (by rw [lst, Array.toArray_toList]; exact hDe)) iO iOut uA ?_
      refine wpAny_truthy_bool ?_
      simp only [Bool.false_eq_true, if_false]
      refine isTrue_or_nil ?_
      simp only [Bool.false_eq_true, if_false]
      refine wpAny_execs_nil ?_
      have W₉ := W.gr tabsTT S₉.gr
      refine hQs _ _ ?_
      try dsimp only
      -- the run
      have Do₉ := S₉.own (Do, lst ov ko) (.head _)
      have Tp₉ := S₉.own (tp, lst tv kt) (.tail _ (.tail _ (.tail _ (.tail _ (.tail _ (.head _))))))
      refine wpAny_execs_cons (wp_gen fun Qs hQs => ?_)
      refine wpAny_Expr (m_call F.plainAttrs_list F.slot_list_append F.type_list_append ?_)
      refine n_loc S₉ mt ⟨(lst_is Tp₉).typeIs, no_dict Tp₉ rfl, ?_⟩
      refine wpAny_items_cons ?_
      refine Subscript_ ?_
      refine wpAny_Call_Name_kw ?_
      refine n_glob W₉ rfl ?_
      refine c_call keeps_fn ?_
      refine wpAny_items_cons (n_glob W₉ rfl ?_)
      refine wpAny_items_cons (n_loc S₉ rfl ?_)
      refine wpAny_items_cons ?_
      refine wpAny_List ?_
      refine wpAny_items_cons ?_
      refine Subscript_ ?_
      refine n_loc S₉ rfl ?_
      refine wpAny_Constant_int ?_
      obtain ⟨to, eo⟩ := ints_get iO (i := 0) (by omega)
      refine item_list (v := .int (ns'.getD 0 0) to) (lst_is Do₉) (by decide) (by decide) (by simpa using eo) ?_
      refine wpAny_items_cons (wpAny_Constant_int ?_)
      refine wpAny_items_cons (wpAny_Constant_int ?_)
      refine wpAny_items_nil ⟨by show 3 ≤ sizeLine; decide, ?_⟩
      dsimp only
      have eh : ns'.getD 0 0 = ns'.headD 0 := by cases ns' <;> rfl
      rw [eh]
      refine wpAny_items_nil ⟨⟨_, _, by exact (W₉.gr Tabs.nil (Gr.push [] h₉ _)).k 38 _ rfl, rfl⟩, ?_⟩
      refine wpAny_mono (top_spec (RoomN.le (n := 7) (u := 57) R.deep (by omega) (by omega)) (W₉.gr Tabs.nil (Gr.push [] h₉ _)) (lst_is (Heap.get?_push_of_some _ Do₉)) iO (Heap.get?_push_size _ rfl)) ?_ (fun _ _ e => e)
      rintro v s' ⟨ha, ta, rfl, Ga, at', va, ka, rfl, hat, tka, eva⟩
      have Ga' := (Gr.push [] h₉ _).trans Ga
      have Sa := S₉.growT lv Ga'.weak
      have Ta := T₉.gr Ga'.all
      refine wpAny_Constant_int ?_
      refine item_list (v := .int (runTop ns') tka) (lst_is hat) (by decide) (by decide) (by simpa using eva) ?_
      refine wpAny_items_nil ?_
      have Tpa := Sa.own (tp, lst tv kt) (.tail _ (.tail _ (.tail _ (.tail _ (.tail _ (.head _))))))
      have tvl := iT.length
      have tsl := tpd.1
      refine wpAny_list_append_plain ⟨kt, Tpa⟩ (fun hb pl sbb => ?_) (by rw [List.size_toArray, tvl, tsl, sizeLine_eq]; omega)
      obtain ⟨k', hob⟩ := plain_snoc pl
      have Sb := (Sa.upd 5 (by rfl) sbb hob).drop (ow' := (I, o₁) :: (RL, lst [.ref Dn, .ref Ds] 0) :: (Ds, lst sv ks) :: (tp, lst (tv ++ [.int (runTop ns') tka]) k') :: (base ++ [(h.objs.size + 1, oc)])) (by exact (List.Sublist.refl _).cons _ |>.cons _)
      have Tb := Ta.but Tpa (off_data fun vs y => by cases y) sbb.extBut
      dsimp only
      refine hQs _ _ ?_
      refine wpAny_execs_nil ?_
      exact ⟨3 - (i + 1), by omega, i + 1, _, o₁, _, k', _, hb, _, rfl, rfl, hlt, Sb, Tb, ⟨ic₁, id₁⟩, mc, mt, mn, iT.append (.cons _ _ .nil), tpd.snoc pO oO⟩
    · have hin : i = 2 := by omega
      subst hin
      refine wpAny_pyNext_list_end (by exact R.h) IT hRL (by simp) fun h₁ ex => ?_
      have S₁ := S.ext 0 (by rfl) ex
      have T₁ := T.but (S.own (I, oi) (by simp)) (off_iter ic id') ex
      dsimp only at S₁ T₁ ⊢
      refine wpAny_execs_nil ?_
      refine hQr _ _ ?_
      try dsimp only
      have W₁ := W.gr tabsTT S₁.gr
      have Nn₁ := S₁.own (Dn, on) (by simp [hBn])
      have nl := iN.length
      refine wpAny_execs_cons (wp_gen fun Qs hQs => ?_)
      refine wpAny_Assign_Name ?_
      rw [eval_ListComp]
      refine wpAny_comprehension_free (cl := []) rfl (fun _ => rfl) rfl rfl (by decide) ?_
      refine n_loc S₁ mn ?_
      refine wpAny_pyIter_list (ln.is Nn₁) ?_
      refine comp_eval (El := fun i _ y f => f = [] ∧ (ns.getD i 0 != 0) = true ∧ ∃ tk, y = .int (absI (ns.getD i 0)) tk) (No := fun i _ => (ns.getD i 0 != 0) = false) (hb := h₁) (Itr.list (by exact R.h) h₁.objs.size Dn nv) (fun h' G => list_all (ln.is Nn₁) G.all) (by omega) (Gr.push _ _ _) (size_none _) (Heap.get?_push_size _ rfl) ⟨rfl, rfl⟩ ?turn5 ?fin5 (by decide) rfl rfl
      case turn5 =>
        intro C i v m' ow' h' t' E'' nC hin pv S' hm'
        have W' := W₁.gr Tabs.nil S'.gr
        obtain ⟨tk, e⟩ := ints_get iN (i := i) (by omega)
        rw [e] at pv; cases pv
        refine tests_one (wpAny_isTrue_Compare1 (n_loc S' hm' (wpAny_Constant_int (ne_int (wpAny_truthy_bool ?_)))))
        refine ⟨h', _, rfl, Gr.refl _ _, ?_⟩
        cases hdec : (ns.getD i 0 != 0) with
        | false => simp only [Bool.false_eq_true, if_false]
        | true =>
          simp only [if_true]
          refine wpAny_Call_Name_kw ?_
          refine n_blt W' rfl rfl ?_
          refine c_call keeps_blt ?_
          refine wpAny_items_cons (n_loc S' hm' ?_)
          refine wpAny_items_nil ⟨trivial, ?_⟩
          refine call_abs_int fun u tk' => ?_
          exact ⟨h', _, [], rfl, Gr.refl _ _, ⟨rfl, (by trivial), u, rfl⟩, (fun _ h => nomatch h), List.Pairwise.nil, (fun _ h => nomatch h)⟩
      case fin5 =>
        intro Dz h₂ t₂ zv fsz kz mdz G₂ hhz hnz hpz
        obtain ⟨iZ, rfl⟩ := made_filter (xs := ns) mdz (fun x => x != 0) absI (by rw [nl]; exact Nat.le_refl _) (fun j v y fs hj pv x => x) (fun j v hj pv x => x)
        rw [nl, List.take_length] at iZ
        have eZ : (List.filter (fun x => x != 0) ns).map absI = nzsz ns := rfl
        rw [eZ] at iZ
        have S₂ := S₁.addsT lv T₁.live G₂.weak hnz hhz hpz
        have T₂ := T₁.gr G₂.all
        refine s_cellL (ow := (Dz, lst zv kz) :: (RL, lst [.ref Dn, .ref Ds] 0) :: (Ds, lst sv ks) :: (tp, lst tv kt) :: base) S₂ T₂ hoc ?_
        intro h₃ oc₃ hd₃ S₃ T₃
        have W₃ := W.gr tabsTT S₃.gr
        have Z₃ := S₃.own (Dz, lst zv kz) (by simp)
        have C₃ := S₃.own (h.objs.size + 1, oc₃) (by simp)
        have zl := iZ.length
        have zl5 : (nzsz ns).length ≤ 5 := by
          unfold nzsz; rw [List.length_map, ← n5]; exact List.length_filter_le _ _
        refine hQs _ _ ?_
        try dsimp only
        refine wpAny_execs_cons (wp_gen fun Qs hQs => ?_)
        refine wpAny_Assign_Name ?_
        refine wpAny_BinOp ?_
        refine wpAny_BinOp ?_
        refine wpAny_Constant_int ?_
        refine wpAny_BinOp ?_
        refine wpAny_Constant_int ?_
        refine wpAny_Call_Name_kw ?_
        refine n_blt W₃ rfl rfl ?_
        refine c_call keeps_blt ?_
        refine wpAny_items_cons (n_cell (c := h.objs.size + 1) C₃ hd₃ ?_)
        refine wpAny_items_nil ⟨trivial, ?_⟩
        refine call_len_list (lst_is Z₃) (by rw [List.size_toArray]; omega) ?_
        refine sub_int ?_
        have e5 : (5 : Int) - ((zv.toArray.size : Nat) : Int) = ((5 - (nzsz ns).length : Nat) : Int) := by rw [List.size_toArray]; omega
        rw [e5]
        refine pow2 (by omega) fun tp1 tt1 => ?_
        refine Subscript_ ?_
        refine wpAny_List ?_
        refine wpAny_items_cons (wpAny_Constant_int ?_)
        refine wpAny_items_cons (wpAny_Constant_int ?_)
        refine wpAny_items_cons (wpAny_Constant_int ?_)
        refine wpAny_items_cons (wpAny_Constant_int ?_)
        refine wpAny_items_cons (wpAny_Constant_int ?_)
        refine wpAny_items_cons (wpAny_Constant_int ?_)
        refine wpAny_items_nil ⟨by show 6 ≤ sizeLine; decide, ?_⟩
        have key : ∀ vals, (h₃.push (lst vals 0)).get? h₃.objs.size = some (lst vals 0) := fun vals => Heap.get?_push_size _ rfl
        dsimp only
        generalize h₃.objs.size = La at key ⊢
        refine wpAny_Call_Name_kw ?_
        refine n_blt (W₃.gr Tabs.nil (Gr.push [] h₃ _)) rfl rfl ?_
        refine c_call keeps_blt ?_
        refine wpAny_items_cons (n_cell (c := h.objs.size + 1) (Heap.get?_push_of_some _ C₃) hd₃ ?_)
        refine wpAny_items_nil ⟨trivial, ?_⟩
        refine call_len_list (lst_is (Heap.get?_push_of_some _ Z₃)) (by rw [List.size_toArray]; omega) ?_
        have ez : ((zv.toArray.size : Nat) : Int) = (((nzsz ns).length : Nat) : Int) := by rw [List.size_toArray, zl]
        rw [ez]
        refine sub_ints (xs := [1, 1, 2, 3, 6, 10]) (.cons _ _ (.cons _ _ (.cons _ _ (.cons _ _ (.cons _ _ (.cons _ _ .nil)))))) (lst_is (key _)) (by omega) (by rw [Int.toNat_natCast]; show (nzsz ns).length < 6; omega) (by decide) fun tkm => ?_
        rw [Int.toNat_natCast]
        refine mul_int ?_ (most_ok zl5)
        show wpAny _ _ (storeName _ _ (.int (mostI (nzsz ns).length) _)) _ _ _
        refine s_locW (S₃.growT lv (Gr.push [] h₃ _).weak) (T₃.gr (Gr.push [] h₃ _).all) fun h₅ S₅ T₅ => ?_
        have Z₅ := S₅.own (Dz, lst zv kz) (by simp)
        have C₅ := S₅.own (h.objs.size + 1, oc₃) (by simp)
        -- alike
        refine hQs _ _ ?_
        try dsimp only
        refine wpAny_execs_cons (wp_gen fun Qs hQs => ?_)
        refine wpAny_Assign_Name ?_
        refine wpAny_Compare1 ?_
        rw [eval_ListComp]
        refine wpAny_comprehension_free (cl := [("sizes", h.objs.size + 1)]) rfl (fun _ => rfl) rfl rfl (by decide) ?_
        refine n_cell (c := h.objs.size + 1) C₅ hd₃ ?_
        refine wpAny_pyIter_list (lst_is Z₅) ?_
        refine comp_eval (El := fun i _ y f => f = [] ∧ ((nzsz ns).getD i 0 != (nzsz ns).getD 0 0) = true ∧ ∃ tk, y = .int (id ((nzsz ns).getD i 0)) tk) (No := fun i _ => ((nzsz ns).getD i 0 != (nzsz ns).getD 0 0) = false) (hb := h₅) (Itr.list (by exact R.h) h₅.objs.size Dz zv) (fun h' G => list_all (lst_is Z₅) G.all) (by omega) (Gr.push _ _ _) (size_none _) (Heap.get?_push_size _ rfl) ⟨rfl, rfl⟩ ?turn6 ?fin6 (by decide) rfl rfl
        case turn6 =>
          intro C i v m' ow' h' t' E'' nC hin pv S' hm'
          obtain ⟨tk, e⟩ := ints_get iZ (i := i) (by omega)
          rw [e] at pv; cases pv
          refine tests_one (wpAny_isTrue_Compare1 (n_loc S' hm' ?_))
          refine Subscript_ ?_
          refine n_cell (c := h.objs.size + 1) (S'.all _ _ C₅) hd₃ ?_
          refine wpAny_Constant_int ?_
          refine sub_ints iZ (lst_is (S'.all _ _ Z₅)) (by decide) (by show 0 < _; omega) (by omega) fun tk0 => ?_
          refine ne_int (wpAny_truthy_bool ?_)
          refine ⟨h', _, rfl, Gr.refl _ _, ?_⟩
          show if ((nzsz ns).getD i 0 != (nzsz ns).getD 0 0) = true then _ else _
          cases hdec : ((nzsz ns).getD i 0 != (nzsz ns).getD 0 0) with
          | false => simp only [Bool.false_eq_true, if_false]
          | true =>
            simp only [if_true]
            exact n_loc S' hm' ⟨h', _, [], rfl, Gr.refl _ _, ⟨rfl, (by trivial), tk, rfl⟩, (fun _ h => nomatch h), List.Pairwise.nil, (fun _ h => nomatch h)⟩
        case fin6 =>
          intro Dq h₆ t₆ qv fsq kq mdq G₆ hhq hnq hpq
          obtain ⟨iQ, rfl⟩ := made_filter (xs := nzsz ns) mdq (fun x => x != (nzsz ns).getD 0 0) id (by rw [zl]; exact Nat.le_refl _) (fun j v y fs hj pv x => x) (fun j v hj pv x => x)
          rw [zl, List.take_length, List.map_id] at iQ
          have S₆ := S₅.growT lv G₆.weak
          have T₆ := T₅.gr G₆.all
          have uA : A.units + 3 < cLine := by have := R.u; show A.units + 3 < 9900; omega
          have Q₆ := hhq (Dq, lst qv kq) (by simp)
          refine wpAny_List ?_
          refine wpAny_items_nil ⟨by show 0 ≤ sizeLine; decide, ?_⟩
          have key : (h₆.push (lst [] 0)).get? h₆.objs.size = some (lst [] 0) := Heap.get?_push_size _ rfl
          dsimp only
          generalize h₆.objs.size = Le at key ⊢
          refine eq_nil (lst_is (Heap.get?_push_of_some _ Q₆)) (lst_is key) iQ uA ?_
          refine s_locW (S₆.growT lv (Gr.push [] h₆ _).weak) (T₆.gr (Gr.push [] h₆ _).all) fun h₇ S₇ T₇ => ?_
          have Tp₇ := S₇.own (tp, lst tv kt) (by simp)
          obtain ⟨σ0, p0, o0, e0⟩ := tpd.2 0 (by decide)
          obtain ⟨σ1, p1, o1, e1⟩ := tpd.2 1 (by decide)
          have l2 : ts.length = 2 := tpd.1
          have cc := law_pure n5 p0 o0 p1 o1
          rw [← e0, ← e1] at cc
          obtain ⟨c1, c2, c3, c4⟩ := cc
          generalize mostI (nzsz ns).length = mo at *
          have eq_al : decide (List.filter (fun x => x != (nzsz ns).getD 0 0) (nzsz ns) = []) = decide (List.filter (fun s => s != (nzsz ns).getD 0 0) (nzsz ns) = []) := rfl
          generalize decide (List.filter (fun x => x != (nzsz ns).getD 0 0) (nzsz ns) = []) = al at *
          have d1 : decide (ts.getD (Int.toNat 1) 0 < ts.getD (Int.toNat 0) 0) = false := decide_eq_false (Int.not_lt.mpr c1)
          have d2 : decide (mo < ts.getD (Int.toNat 1) 0) = false := decide_eq_false (Int.not_lt.mpr c2)
          have d3 : (ts.getD (Int.toNat 0) 0 == mo) = al := (beq_dec _ _).trans c3
          have d4 : (ts.getD (Int.toNat 1) 0 == mo) = al := (beq_dec _ _).trans c4
          refine hQs _ _ ?_
          try dsimp only
          refine wpAny_execs_cons (wp_gen fun Qs hQs => ?_)
          refine wpAny_If ?_
          refine isTrue_or ?_
          refine wpAny_isTrue_Compare1 ?_
          refine Subscript_ (n_loc S₇ mt (wpAny_Constant_int ?_))
          refine sub_ints iT (lst_is Tp₇) (by decide) (by show 0 < ts.length; omega) (by omega) fun tk1 => ?_
          refine Subscript_ (n_loc S₇ mt (wpAny_Constant_int ?_))
          refine sub_ints iT (lst_is Tp₇) (by decide) (by show 1 < ts.length; omega) (by omega) fun tk2 => ?_
          refine PyProof.Rows.gt_int (wpAny_truthy_bool ?_)
          rw [d1]
          simp only [Bool.false_eq_true, if_false]
          refine isTrue_or ?_
          refine wpAny_isTrue_Compare1 ?_
          refine Subscript_ (n_loc S₇ mt (wpAny_Constant_int ?_))
          refine sub_ints iT (lst_is Tp₇) (by decide) (by show 1 < ts.length; omega) (by omega) fun tk3 => ?_
          refine n_loc S₇ rfl ?_
          refine PyProof.Rows.gt_int (wpAny_truthy_bool ?_)
          rw [d2]
          simp only [Bool.false_eq_true, if_false]
          refine isTrue_or_nil ?_
          simp only [Bool.false_eq_true, if_false]
          refine wpAny_execs_nil ?_
          refine hQs _ _ ?_
          try dsimp only
          refine wpAny_execs_cons (wp_gen fun Qs hQs => ?_)
          refine wpAny_Return_some ?_
          refine BoolOp_and ?_
          refine wpAny_Compare1 (wpAny_Compare1 ?_)
          refine Subscript_ (n_loc S₇ mt (wpAny_Constant_int ?_))
          refine sub_ints iT (lst_is Tp₇) (by decide) (by show 0 < ts.length; omega) (by omega) fun tk4 => ?_
          refine n_loc S₇ rfl ?_
          refine PyProof.Rows.eq_int ?_
          rw [d3]
          refine n_loc S₇ rfl ?_
          refine eq_bool ?_
          rw [beq_self_eq_true]
          refine wpAny_truthy_bool ?_
          simp only [if_true]
          refine BoolOp_one ?_
          refine wpAny_Compare1 (wpAny_Compare1 ?_)
          refine Subscript_ (n_loc S₇ mt (wpAny_Constant_int ?_))
          refine sub_ints iT (lst_is Tp₇) (by decide) (by show 1 < ts.length; omega) (by omega) fun tk5 => ?_
          refine n_loc S₇ rfl ?_
          refine PyProof.Rows.eq_int ?_
          rw [d4]
          refine n_loc S₇ rfl ?_
          refine eq_bool ?_
          rw [beq_self_eq_true]
          exact hQs _ _ (hQf _ _ ⟨rfl, h₇, _, rfl, S₇.gr, T₇⟩)
end
end Mine
end
section
open PySem PySem.W PySem.W.X PyProof.Rows PySem.Calls
set_option maxRecDepth 100000
namespace Mine
theorem code_table {h : Heap} {c P : Addr} (x : CodeHd h c P) : isCodeTable h P :=
  let ⟨o, vs, _, _, _, _, _, _, _, e1, e2, e3, e4, _⟩ := x; ⟨c, o, vs, e1, e2, e3, e4⟩
theorem room_caller : RoomN 8 60 callerA := ⟨rfl, by decide, by decide⟩
theorem wst_start {h : Heap} (e24 : h.get? 24 = some (tabObj #[])) (e64 : h.get? 64 = some (tabObj #[])) : WSt h :=
  ⟨.inl ⟨#[], e24, trivial, rfl⟩, _, e64, #[], rfl, trivial, .inl rfl⟩
theorem oldK_end {w : World} {mg mb : Str → Option Value} {h h' : Heap} (z24 : h.get? 24 = some (tabObj #[])) (z64 : h.get? 64 = some (tabObj #[])) (W : Wd w mg mb h) (G : Gr TT h h') (T : WSt h') : OldK h h' := by
  obtain ⟨p, e⟩ := T.at24
  obtain ⟨p', e'⟩ := T.at64
  refine ⟨fun b o eb => ?_, fun b o eb => ?_⟩
  · by_cases h1 : b = 24
    · subst h1
      rw [z24] at eb; cases eb
      exact .inr (.inl ⟨code_table (codeHd29 W), rfl, #[], p, rfl, by rw [e]; simp⟩)
    · by_cases h2 : b = 64
      · subst h2
        rw [z64] at eb; cases eb
        exact .inr (.inl ⟨code_table (codeHd66 W), rfl, #[], p', rfl, by rw [e']; simp⟩)
      · exact .inl (G.keep b o (by simp [h1, h2]) eb)
  · by_cases h1 : b = 24
    · subst h1; exact ⟨_, e⟩
    · by_cases h2 : b = 64
      · subst h2; exact ⟨_, e'⟩
      · exact ⟨o, G.keep b o (by simp [h1, h2]) eb⟩
end Mine
end
open PySem PySem.W PySem.W.X PyProof.Rows
set_option maxRecDepth 100000
set_option maxHeartbeats 8000000 in
theorem PySem.Challenge.cw_oy0026_01_holds : PySem.Challenge.rw_oy0026_01.Holds := by
  exact Mine.hdx (by
    intro w s₀ s₁ mg mb G Y fa o pm cd doc dV kV ho hd hcd hD hmg hg args vals as hpre hlay hrd hwl hlo
    have KX := km_in_of Y
    have KT := km_tabs_of Y
    refine Ground.open G ?_
    intro T B D TE TW
    try (refine guard_noD D (by decide +kernel) ?_; clear D)
    clear hd hcd hD ho
    obtain ⟨hp, gs, dr, tk, os⟩ := s₁
    have K0 := Mine.K0_in KX
    have W : Mine.Wd w mg mb hp := by
      refine ⟨T.g, T.b, T.nolimit, K0, T.builtins, ?_, ?_⟩
      · obtain ⟨bm, ob, b1, _, b2, b3, b4, b5⟩ := T.bmain
        have z : some (Value.ref bm) = some (Value.ref 4) := b1.symm.trans (Mine.ns_of K0 T.g (by rfl))
        injection z with z
        injection z with z
        subst z
        exact ⟨ob, b2, b3, b4, b5⟩
      · obtain ⟨mm, ⟨o, _, _, e, _⟩, _⟩ := (T.seer (by decide +kernel)).mods
        exact ⟨o, e⟩
    have z24 : hp.get? 24 = some (tabObj #[]) := KT 24 (by decide)
    have z64 : hp.get? 64 = some (tabObj #[]) := KT 64 (by decide)
    clear KT
    have e84 : mg ("law" : Str) = some (.ref 84) := Mine.ns_of W.k W.g (by rfl)
    have hf : fa = 84 := by
      have z : some (Value.ref fa) = some (Value.ref 84) := hmg.symm.trans e84
      injection z with z
      injection z
    subst hf
    clear hmg
    have ST := Mine.wst_start z24 z64
    have hg' : gs = #[] := hg
    clear T B TE TW G Y
    wrow_args hpre hlay hrd hwl hlo
    rename_i xs hs hlay0 hL1 hr1 hl2 a4 a3 la lvs as' hL ra w1 r0 hI hr2 hc1 hc2
    have hlen : lvs.length ≤ 63 := by have := hI.length; omega
    refine wpAny_mono (Mine.law_spec Mine.room_caller W ST hL hI hlen) ?_ (fun _ _ z => z)
    rintro v s' ⟨rfl, h', t', rfl, GR, T'⟩
    refine ⟨.inl ⟨.bool true, .bool true, [], rfl, raisesW_false ?hn, .bool true, ?hp, unshared_nil⟩, Mine.oldK_end z24 z64 W GR T', rfl, .of_eq hg'⟩
    case hn => wrow_none_raised
    case hp =>
      refine' postW_of ?pz1 ?pz2 ?pz3
      case pz1 => o_shape
      case pz2 => wtm_val
      case pz3 => w_fin)
