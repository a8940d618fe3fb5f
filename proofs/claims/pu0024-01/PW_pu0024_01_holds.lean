import PyProof.Rows.All
import Wide.All
import OpenK.AllK
import Wide.FinOn
import Lean
import PySem.Challenge.RW_pu0024_01
set_option Elab.async false
set_option maxRecDepth 100000
set_option maxHeartbeats 8000000
set_option compiler.extract_closed false
namespace Mine
section
variable (c : Nat → Nat → Int)

/-- the least cost of turning one text into another -/
def dist : List Nat → List Nat → Int
  | [], v => 2 * (v.length : Int)
  | x :: u, [] => 2 * ((u.length : Int) + 1)
  | x :: u, y :: v => min (min (dist u (y :: v)) (dist (x :: u) v) + 2) (dist u v + c x y)
termination_by u v => u.length + v.length

inductive Al : List Nat → List Nat → Int → Prop
  | nil : Al [] [] 0
  | del {u v : List Nat} {n : Int} (x : Nat) : Al u v n → Al (x :: u) v (n + 2)
  | ins {u v : List Nat} {n : Int} (y : Nat) : Al u v n → Al u (y :: v) (n + 2)
  | sub {u v : List Nat} {n : Int} (x y : Nat) : Al u v n → Al (x :: u) (y :: v) (n + c x y)

theorem dist_nil_left (v : List Nat) : dist c [] v = 2 * (v.length : Int) := by rw [dist]
theorem dist_nil_right (u : List Nat) : dist c u [] = 2 * (u.length : Int) := by
  cases u with
  | nil => rw [dist]
  | cons x u => rw [dist]; simp
theorem dist_cons (x y : Nat) (u v : List Nat) : dist c (x :: u) (y :: v) = min (min (dist c u (y :: v)) (dist c (x :: u) v) + 2) (dist c u v + c x y) := by rw [dist]

theorem al_nil_left : ∀ v : List Nat, Al c [] v (2 * (v.length : Int))
  | [] => by simpa using Al.nil
  | y :: v => by
    have := Al.ins (c := c) y (al_nil_left v)
    simpa [Int.mul_add] using this
theorem al_nil_right : ∀ u : List Nat, Al c u [] (2 * (u.length : Int))
  | [] => by simpa using Al.nil
  | x :: u => by
    have := Al.del (c := c) x (al_nil_right u)
    simpa [Int.mul_add] using this

theorem al_dist : ∀ (n : Nat) (u v : List Nat), u.length + v.length ≤ n → Al c u v (dist c u v)
  | 0, u, v, h => by
    have hu : u = [] := List.length_eq_zero_iff.mp (by omega)
    have hv : v = [] := List.length_eq_zero_iff.mp (by omega)
    subst hu hv
    rw [dist_nil_left]; simpa using Al.nil
  | n + 1, [], v, h => by rw [dist_nil_left]; exact al_nil_left c v
  | n + 1, x :: u, [], h => by rw [dist_nil_right]; exact al_nil_right c _
  | n + 1, x :: u, y :: v, h => by
    simp only [List.length_cons] at h
    have h1 := Al.del (c := c) x (al_dist n u (y :: v) (by simp; omega))
    have h2 := Al.ins (c := c) y (al_dist n (x :: u) v (by simp; omega))
    have h3 := Al.sub (c := c) x y (al_dist n u v (by omega))
    rw [dist_cons]
    by_cases e1 : dist c u v + c x y ≤ min (dist c u (y :: v)) (dist c (x :: u) v) + 2
    · rw [Int.min_eq_right e1]; exact h3
    · rw [Int.min_eq_left (by omega)]
      by_cases e2 : dist c u (y :: v) ≤ dist c (x :: u) v
      · rw [Int.min_eq_left e2]; exact h1
      · rw [Int.min_eq_right (by omega)]; exact h2
theorem dist_al (u v : List Nat) : Al c u v (dist c u v) := al_dist c _ u v (Nat.le_refl _)

theorem dist_le {u v : List Nat} {n : Int} (h : Al c u v n) : dist c u v ≤ n := by
  induction h with
  | nil => rw [dist_nil_left]; simp
  | @del u v n x _ ih =>
    cases v with
    | nil => rw [dist_nil_right] at ih ⊢; simp; omega
    | cons y v => rw [dist_cons]; omega
  | @ins u v n y _ ih =>
    cases u with
    | nil => rw [dist_nil_left] at ih ⊢; simp; omega
    | cons x u => rw [dist_cons]; omega
  | @sub u v n x y _ ih => rw [dist_cons]; omega

theorem Al.append {u v u' v' : List Nat} {n m : Int} (h : Al c u v n) (h' : Al c u' v' m) : Al c (u ++ u') (v ++ v') (n + m) := by
  induction h with
  | nil => simpa using h'
  | del x _ ih => have := Al.del (c := c) x ih; rw [show ∀ a b : Int, a + 2 + b = a + b + 2 by intros; omega]; exact this
  | ins y _ ih => have := Al.ins (c := c) y ih; rw [show ∀ a b : Int, a + 2 + b = a + b + 2 by intros; omega]; exact this
  | sub x y _ ih => have := Al.sub (c := c) x y ih; rw [show ∀ a b e : Int, a + e + b = a + b + e by intros; omega]; exact this
theorem Al.rev {u v : List Nat} {n : Int} (h : Al c u v n) : Al c u.reverse v.reverse n := by
  induction h with
  | nil => exact .nil
  | del x _ ih =>
    have := ih.append c (Al.del (c := c) x .nil)
    simpa using this
  | ins y _ ih =>
    have := ih.append c (Al.ins (c := c) y .nil)
    simpa using this
  | sub x y _ ih =>
    have := ih.append c (Al.sub (c := c) x y .nil)
    simpa using this
theorem dist_rev (u v : List Nat) : dist c u.reverse v.reverse = dist c u v := by
  apply Int.le_antisymm
  · exact dist_le c ((dist_al c u v).rev c)
  · have := dist_le c ((dist_al c u.reverse v.reverse).rev c)
    simpa using this
theorem dist_snoc (u v : List Nat) (x y : Nat) : dist c (u ++ [x]) (v ++ [y]) = min (min (dist c u (v ++ [y])) (dist c (u ++ [x]) v) + 2) (dist c u v + c x y) := by
  have e := dist_cons c x y u.reverse v.reverse
  have h1 := dist_rev c (u ++ [x]) (v ++ [y])
  have h2 := dist_rev c u (v ++ [y])
  have h3 := dist_rev c (u ++ [x]) v
  have h4 := dist_rev c u v
  simp only [List.reverse_append, List.reverse_cons, List.reverse_nil, List.nil_append, List.cons_append] at h1 h2 h3
  rw [← h1, ← h2, ← h3, ← h4]; exact e

theorem dist_swap (hs : ∀ x y, c x y = c y x) (u v : List Nat) : dist c u v = dist c v u := by
  have key : ∀ {u v : List Nat} {n : Int}, Al c u v n → Al c v u n := by
    intro u v n h
    induction h with
    | nil => exact .nil
    | del x _ ih => exact .ins x ih
    | ins y _ ih => exact .del y ih
    | sub x y _ ih => rw [hs]; exact .sub y x ih
  exact Int.le_antisymm (dist_le c (key (dist_al c v u))) (dist_le c (key (dist_al c u v)))

theorem dist_lip (h0 : ∀ x y, 0 ≤ c x y) (y : Nat) (u v : List Nat) : dist c u v ≤ dist c u (y :: v) + 2 := by
  have key : ∀ {u w : List Nat} {n : Int}, Al c u w n → ∀ y v, w = y :: v → ∃ m, m ≤ n + 2 ∧ Al c u v m := by
    intro u w n h
    induction h with
    | nil => intro y v e; cases e
    | del x _ ih =>
      intro y v e
      obtain ⟨m, hm, h⟩ := ih y v e
      exact ⟨m + 2, by omega, .del x h⟩
    | @ins u w n y' h _ => intro y v e; cases e; exact ⟨n, by omega, h⟩
    | @sub u w n x y' h _ => intro y v e; cases e; exact ⟨n + 2, by have := h0 x y'; omega, .del x h⟩
  obtain ⟨m, hm, h⟩ := key (dist_al c u (y :: v)) y v rfl
  exact Int.le_trans (dist_le c h) hm
theorem dist_lip' (h0 : ∀ x y, 0 ≤ c x y) (x : Nat) (u v : List Nat) : dist c u v ≤ dist c (x :: u) v + 2 := by
  have key : ∀ {w v : List Nat} {n : Int}, Al c w v n → ∀ x u, w = x :: u → ∃ m, m ≤ n + 2 ∧ Al c u v m := by
    intro w v n h
    induction h with
    | nil => intro y v e; cases e
    | ins y _ ih =>
      intro x u e
      obtain ⟨m, hm, h⟩ := ih x u e
      exact ⟨m + 2, by omega, .ins y h⟩
    | @del w v n x' h _ => intro x u e; cases e; exact ⟨n, by omega, h⟩
    | @sub w v n x' y h _ => intro x u e; cases e; exact ⟨n + 2, by have := h0 x' y; omega, .ins y h⟩
  obtain ⟨m, hm, h⟩ := key (dist_al c (x :: u) v) x u rfl
  exact Int.le_trans (dist_le c h) hm
theorem dist_same (h0 : ∀ x y, 0 ≤ c x y) (hz : ∀ x, c x x = 0) (x : Nat) (u v : List Nat) : dist c (x :: u) (x :: v) = dist c u v := by
  have h1 := dist_lip c h0 x u v
  have h2 := dist_lip' c h0 x u v
  rw [dist_cons, hz]; omega
theorem dist_pre (h0 : ∀ x y, 0 ≤ c x y) (hz : ∀ x, c x x = 0) : ∀ (p u v : List Nat), dist c (p ++ u) (p ++ v) = dist c u v
  | [], u, v => rfl
  | x :: p, u, v => by rw [List.cons_append, List.cons_append, dist_same c h0 hz, dist_pre h0 hz p]
theorem dist_post (h0 : ∀ x y, 0 ≤ c x y) (hz : ∀ x, c x x = 0) (p u v : List Nat) : dist c (u ++ p) (v ++ p) = dist c u v := by
  rw [← dist_rev c (u ++ p), List.reverse_append, List.reverse_append, dist_pre c h0 hz, dist_rev]
theorem dist_nonneg (h0 : ∀ x y, 0 ≤ c x y) (u v : List Nat) : 0 ≤ dist c u v := by
  have := dist_al c u v
  generalize dist c u v = n at this
  induction this with
  | nil => exact Int.le_refl _
  | del _ _ ih => omega
  | ins _ _ ih => omega
  | sub x y _ ih => have := h0 x y; omega
theorem dist_self (h0 : ∀ x y, 0 ≤ c x y) (hz : ∀ x, c x x = 0) (u : List Nat) : dist c u u = 0 := by
  have := dist_pre c h0 hz u [] []
  simpa [dist_nil_left] using this
theorem dist_len (h0 : ∀ x y, 0 ≤ c x y) (u v : List Nat) : 2 * (v.length : Int) - 2 * u.length ≤ dist c u v := by
  have := dist_al c u v
  generalize dist c u v = n at this
  induction this with
  | nil => simp
  | del _ _ ih => simp; omega
  | ins _ _ ih => simp; omega
  | sub x y _ ih => have := h0 x y; simp; omega
end

section
variable (c : Nat → Nat → Int) (u v : List Nat)
def dd (i j : Nat) : Int := dist c (u.take i) (v.take j)
theorem dd_zero_left (j : Nat) (hj : j ≤ v.length) : dd c u v 0 j = 2 * (j : Int) := by
  unfold dd; rw [List.take_zero, dist_nil_left, List.length_take]; omega
theorem dd_zero_right (i : Nat) (hi : i ≤ u.length) : dd c u v i 0 = 2 * (i : Int) := by
  unfold dd; rw [List.take_zero, dist_nil_right, List.length_take]; omega
theorem take_snoc {l : List Nat} {i x : Nat} (h : l[i]? = some x) : l.take (i + 1) = l.take i ++ [x] := by
  rw [List.take_add_one, h]; rfl
theorem dd_succ {i j x y : Nat} (hx : u[i]? = some x) (hy : v[j]? = some y) : dd c u v (i + 1) (j + 1) = min (min (dd c u v i (j + 1)) (dd c u v (i + 1) j) + 2) (dd c u v i j + c x y) := by
  unfold dd
  rw [take_snoc hx, take_snoc hy, dist_snoc]
theorem dd_whole : dd c u v u.length v.length = dist c u v := by unfold dd; rw [List.take_length, List.take_length]

theorem get_some {l : List Nat} {i : Nat} (h : i < l.length) : ∃ x, l[i]? = some x := ⟨l[i], List.getElem?_eq_getElem h⟩

/-- a row is not below what the row ahead of it is not below -/
theorem dd_row (h0 : ∀ x y, 0 ≤ c x y) {t : Int} {j : Nat} (hj : j < v.length) (h : ∀ i, i ≤ u.length → t ≤ dd c u v i j) : ∀ i, i ≤ u.length → t ≤ dd c u v i (j + 1) := by
  intro i
  induction i with
  | zero =>
    intro _
    have := h 0 (Nat.zero_le _)
    rw [dd_zero_left c u v _ (by omega)] at this ⊢
    omega
  | succ i ih =>
    intro hi
    obtain ⟨x, hx⟩ := get_some (l := u) (i := i) (by omega)
    obtain ⟨y, hy⟩ := get_some hj
    rw [dd_succ c u v hx hy]
    have h1 := ih (by omega)
    have h2 := h (i + 1) hi
    have h3 := h i (by omega)
    have := h0 x y
    omega
theorem dd_rows (h0 : ∀ x y, 0 ≤ c x y) {t : Int} {j : Nat} (h : ∀ i, i ≤ u.length → t ≤ dd c u v i j) : ∀ k, j + k ≤ v.length → ∀ i, i ≤ u.length → t ≤ dd c u v i (j + k) := by
  intro k
  induction k with
  | zero => intro _; exact h
  | succ k ih => intro hk; exact dd_row c u v h0 (j := j + k) (by omega) (ih (by omega))
/-- the way that the loop goes out early -/
theorem dd_early (h0 : ∀ x y, 0 ≤ c x y) (h2 : ∀ x y, c x y ≤ 2) {t : Int} {j : Nat} (hu : 0 < u.length) (hj : j < v.length) (h : ∀ i, 1 ≤ i → i ≤ u.length → t ≤ dd c u v i (j + 1)) : t ≤ dist c u v := by
  rw [← dd_whole]
  have e : v.length = (j + 1) + (v.length - (j + 1)) := by omega
  rw [e]
  refine dd_rows c u v h0 (fun i hi => ?_) _ (by omega) _ (Nat.le_refl _)
  cases i with
  | succ i => exact h _ (by omega) hi
  | zero =>
    have h1 := h 1 (Nat.le_refl _) hu
    obtain ⟨x, hx⟩ := get_some hu
    obtain ⟨y, hy⟩ := get_some hj
    rw [dd_succ c u v hx hy] at h1
    rw [dd_zero_left c u v _ (by omega)] at h1 ⊢
    have := h2 x y
    rw [dd_zero_left c u v _ (by omega)] at h1
    omega
def rowv (j : Nat) : List Int := (List.range u.length).map fun i => dd c u v (i + 1) j
def rowm (j i : Nat) : List Int := (List.range u.length).map fun k => if k < i then dd c u v (k + 1) (j + 1) else dd c u v (k + 1) j
theorem rowm_zero (j : Nat) : rowm c u v j 0 = rowv c u v j := by simp [rowm, rowv]
theorem rowm_last (j : Nat) : rowm c u v j u.length = rowv c u v (j + 1) := by
  unfold rowm rowv
  refine List.map_congr_left fun k hk => ?_
  rw [List.mem_range] at hk
  rw [if_pos hk]
theorem rowm_get {j i : Nat} (hi : i < u.length) : (rowm c u v j i)[i]? = some (dd c u v (i + 1) j) := by
  unfold rowm
  rw [List.getElem?_map, List.getElem?_range hi]
  simp
theorem rowm_set {j i : Nat} (hi : i < u.length) : (rowm c u v j i).set i (dd c u v (i + 1) (j + 1)) = rowm c u v j (i + 1) := by
  apply List.ext_getElem?
  intro k
  unfold rowm
  rw [List.getElem?_set]
  by_cases h : i = k
  · subst h
    rw [if_pos rfl, List.getElem?_map, List.getElem?_range hi]
    simp [hi]
  · rw [if_neg h, List.getElem?_map, List.getElem?_map]
    by_cases hk : k < u.length
    · rw [List.getElem?_range hk]
      simp only [Option.map_some]
      by_cases h2 : k < i
      · rw [if_pos h2, if_pos (by omega)]
      · rw [if_neg h2, if_neg (by omega)]
    · rw [List.getElem?_eq_none (by simp; omega)]; rfl
theorem rowm_len (j i : Nat) : (rowm c u v j i).length = u.length := by simp [rowm]
theorem rowv_len (j : Nat) : (rowv c u v j).length = u.length := by simp [rowv]
theorem rowv_zero {k : Nat} {m : Int} (h : (rowv c u v 0)[k]? = some m) : k < u.length ∧ m = 2 + (k : Int) * 2 := by
  have hk : k < u.length := by
    have := (List.getElem?_eq_some_iff.mp h).1
    rwa [rowv_len] at this
  refine ⟨hk, ?_⟩
  unfold rowv at h
  rw [List.getElem?_map, List.getElem?_range hk] at h
  simp only [Option.map_some, Option.some.injEq] at h
  rw [← h, dd_zero_right c u v _ (by omega)]
  push_cast; omega
/-- what the loop reckons at one place -/
theorem min_step {a d x : Int} (h : x ≤ a + 2) : min (min a d + 2) x = min (min (a + 2) d + 2) x := by
  rcases Int.le_total a d with h1 | h1
  · rw [Int.min_eq_left h1, Int.min_eq_right h, Int.min_eq_right]
    have : a ≤ min (a + 2) d := Int.le_min.mpr ⟨by omega, h1⟩
    generalize min (a + 2) d = z at this ⊢
    omega
  · rw [Int.min_eq_right h1, Int.min_eq_right (show d ≤ a + 2 by omega)]
theorem dd_step (h2 : ∀ x y, c x y ≤ 2) {i j x y : Nat} (hx : u[i]? = some x) (hy : v[j]? = some y) {res : Int} (hr : res = if i = 0 then 2 * (j : Int) else dd c u v i (j + 1)) :
    min (min res (dd c u v (i + 1) j) + 2) (dd c u v i j + c x y) = dd c u v (i + 1) (j + 1) := by
  rw [dd_succ c u v hx hy]
  by_cases h : i = 0
  · subst h
    have hj : j < v.length := (List.getElem?_eq_some_iff.mp hy).1
    rw [if_pos rfl] at hr
    rw [dd_zero_left c u v (j + 1) (by omega), dd_zero_left c u v j (by omega), hr]
    have := h2 x y
    rw [show (2 : Int) * ((j + 1 : Nat) : Int) = 2 * (j : Int) + 2 by omega]
    exact min_step (by omega)
  · rw [if_neg h] at hr; rw [hr]
end
end Mine
namespace Mine
section
variable (c : Nat → Nat → Int) (u v : List Nat)
theorem dist_up_le (h2 : ∀ x y, c x y ≤ 2) : ∀ (n : Nat) (u v : List Nat), u.length + v.length ≤ n → dist c u v ≤ 2 * (max u.length v.length : Nat)
  | _, [], v, _ => by rw [dist_nil_left]; simp
  | _, x :: u, [], _ => by rw [dist_nil_right]; simp
  | 0, x :: u, y :: v, h => by simp at h
  | n + 1, x :: u, y :: v, h => by
    simp only [List.length_cons] at h
    have ih := dist_up_le h2 n u v (by omega)
    have := h2 x y
    rw [dist_cons]
    simp only [List.length_cons]
    refine Int.le_trans (Int.min_le_right _ _) ?_
    rw [Nat.add_max_add_right]
    generalize max u.length v.length = m at ih ⊢
    omega
theorem dd_le (h2 : ∀ x y, c x y ≤ 2) {i j : Nat} (hi : i ≤ u.length) (hj : j ≤ v.length) : dd c u v i j ≤ 2 * (max i j : Nat) := by
  have := dist_up_le c h2 _ (u.take i) (v.take j) (Nat.le_refl _)
  unfold dd
  rw [List.length_take, List.length_take, Nat.min_eq_left hi, Nat.min_eq_left hj] at this
  exact this
theorem dd_nonneg (h0 : ∀ x y, 0 ≤ c x y) (i j : Nat) : 0 ≤ dd c u v i j := dist_nonneg c h0 _ _
theorem some_of {l : List Nat} {i : Nat} (h : i < l.length) : ∃ x, l[i]? = some x := get_some h
theorem dd_insR {i j : Nat} (hj : j < v.length) : dd c u v i (j + 1) ≤ dd c u v i j + 2 := by
  obtain ⟨y, hy⟩ := get_some hj
  unfold dd
  rw [take_snoc hy]
  have := dist_le c ((dist_al c (u.take i) (v.take j)).append c (Al.ins (c := c) y .nil))
  simp only [List.append_nil] at this
  omega
theorem dd_insL {i j : Nat} (hi : i < u.length) : dd c u v (i + 1) j ≤ dd c u v i j + 2 := by
  obtain ⟨x, hx⟩ := get_some hi
  unfold dd
  rw [take_snoc hx]
  have := dist_le c ((dist_al c (u.take i) (v.take j)).append c (Al.del (c := c) x .nil))
  simp only [List.append_nil] at this
  omega
theorem dd_delR (h0 : ∀ x y, 0 ≤ c x y) {i j : Nat} (hj : j < v.length) : dd c u v i j ≤ dd c u v i (j + 1) + 2 := by
  obtain ⟨y, hy⟩ := get_some hj
  unfold dd
  rw [take_snoc hy]
  have := dist_lip c h0 y (u.take i).reverse (v.take j).reverse
  rw [dist_rev] at this
  have e : y :: (v.take j).reverse = (v.take j ++ [y]).reverse := by simp
  rw [e, dist_rev] at this
  exact this
theorem dd_delL (h0 : ∀ x y, 0 ≤ c x y) {i j : Nat} (hi : i < u.length) : dd c u v i j ≤ dd c u v (i + 1) j + 2 := by
  obtain ⟨x, hx⟩ := get_some hi
  unfold dd
  rw [take_snoc hx]
  have := dist_lip' c h0 x (u.take i).reverse (v.take j).reverse
  rw [dist_rev] at this
  have e : x :: (u.take i).reverse = (u.take i ++ [x]).reverse := by simp
  rw [e, dist_rev] at this
  exact this
theorem dd_mono (h0 : ∀ x y, 0 ≤ c x y) {i j : Nat} (hi : i < u.length) (hj : j < v.length) : dd c u v i j ≤ dd c u v (i + 1) (j + 1) := by
  obtain ⟨x, hx⟩ := get_some hi
  obtain ⟨y, hy⟩ := get_some hj
  rw [dd_succ c u v hx hy]
  have h1 := dd_delR c u v h0 (i := i) hj
  have h2 := dd_delL c u v h0 (j := j) hi
  have := h0 x y
  omega
theorem dd_diag (h0 : ∀ x y, 0 ≤ c x y) {i j : Nat} {x y : Nat} (hx : u[i]? = some x) (hy : v[j]? = some y) : dd c u v (i + 1) (j + 1) ≤ dd c u v i j + c x y := by
  rw [dd_succ c u v hx hy]; omega
theorem dd_monos (h0 : ∀ x y, 0 ≤ c x y) {i j : Nat} : ∀ d, i + d ≤ u.length → j + d ≤ v.length → dd c u v i j ≤ dd c u v (i + d) (j + d)
  | 0, _, _ => Int.le_refl _
  | d + 1, h1, h2 => Int.le_trans (dd_monos h0 d (by omega) (by omega)) (dd_mono c u v h0 (i := i + d) (j := j + d) (by omega) (by omega))

/-- a place of a diagonal -/
def InD (k : Int) (i j : Nat) : Prop := (j : Int) = (i : Int) + k ∧ i ≤ u.length ∧ j ≤ v.length
theorem InD.pred {u v : List Nat} {k : Int} {i j : Nat} (h : InD u v k (i + 1) (j + 1)) : InD u v k i j := by obtain ⟨h1, h2, h3⟩ := h; exact ⟨by omega, by omega, by omega⟩
theorem InD.predI {u v : List Nat} {k : Int} {i j : Nat} (h : InD u v k (i + 1) j) : InD u v (k + 1) i j := by obtain ⟨h1, h2, h3⟩ := h; exact ⟨by omega, by omega, h3⟩
theorem InD.predJ {u v : List Nat} {k : Int} {i j : Nat} (h : InD u v k i (j + 1)) : InD u v (k - 1) i j := by obtain ⟨h1, h2, h3⟩ := h; exact ⟨by omega, h2, by omega⟩
theorem InD.succ {u v : List Nat} {k : Int} {i j : Nat} (h1 : (j : Int) = (i : Int) + k) (h2 : i < u.length) (h3 : j < v.length) : InD u v k (i + 1) (j + 1) := ⟨by omega, h2, h3⟩
theorem InD.succJ {u v : List Nat} {k : Int} {i j : Nat} (h1 : (j : Int) = (i : Int) + (k - 1)) (h2 : i ≤ u.length) (h3 : j < v.length) : InD u v k i (j + 1) := ⟨by omega, h2, h3⟩
theorem InD.succI {u v : List Nat} {k : Int} {i j : Nat} (h1 : (j : Int) = (i : Int) + (k + 1)) (h2 : i < u.length) (h3 : j ≤ v.length) : InD u v k (i + 1) j := ⟨by omega, h2, h3⟩
/-- a reach: how far one comes on a diagonal at a cost -/
def Rch (k e q : Int) : Prop := (q ≤ e - 90 ∨ ∃ i j : Nat, q = i ∧ InD u v k i j) ∧ ∀ i j : Nat, InD u v k i j → (dd c u v i j ≤ e ↔ (i : Int) ≤ q)
/-- a reach on the way -/
def Way (k e p : Int) : Prop := (p ≤ e - 90 ∨ ∃ i j : Nat, p = i ∧ InD u v k i j ∧ dd c u v i j ≤ e) ∧
  ∀ i j : Nat, InD u v k i j → dd c u v i j ≤ e → p < (i : Int) → ∃ i' j' x y, i = i' + 1 ∧ j = j' + 1 ∧ u[i']? = some x ∧ v[j']? = some y ∧ c x y = 0
def enD (k : Int) : Int := min (u.length : Int) ((v.length : Int) - k)
theorem enD_le {u v : List Nat} {k : Int} {i j : Nat} (hd : InD u v k i j) : min (i : Int) (enD u v k) = (i : Int) := by
  obtain ⟨h1, h2, h3⟩ := hd
  exact Int.min_eq_left (Int.le_min.mpr ⟨by omega, by omega⟩)
theorem enD_up {u v : List Nat} {k : Int} {i j : Nat} (hd : InD u v k (i + 1) j) : min ((i : Int) + 1) (enD u v k) = ((i + 1 : Nat) : Int) := enD_le hd
theorem enD_end {u v : List Nat} {k x : Int} {i j : Nat} (hd : InD u v k i j) (hx : (i : Int) ≤ x) (he : u.length ≤ i ∨ v.length ≤ j) : min x (enD u v k) = (i : Int) := by
  obtain ⟨h1, h2, h3⟩ := hd
  refine Int.le_antisymm ?_ (Int.le_min.mpr ⟨hx, Int.le_min.mpr ⟨by omega, by omega⟩⟩)
  refine Int.le_trans (Int.min_le_right _ _) ?_
  rcases he with h | h
  · exact Int.le_trans (Int.min_le_left _ _) (by omega)
  · exact Int.le_trans (Int.min_le_right _ _) (by omega)
/-- one of what a reach is the greatest of -/
def Src (k e x : Int) : Prop := x ≤ e - 90 ∨ ∃ i j : Nat, min x (enD u v k) = i ∧ InD u v k i j ∧ dd c u v i j ≤ e

theorem rch_none {k e : Int} (h0 : ∀ x y, 0 ≤ c x y) (he : -9 ≤ e) (h : e < 0 ∨ k < -(u.length : Int) ∨ (v.length : Int) < k) : Rch c u v k e (-99) := by
  refine ⟨.inl (by omega), fun i j hd => ?_⟩
  obtain ⟨h1, h2, h3⟩ := hd
  have := dd_nonneg c u v h0 i j
  omega
theorem src_max {k e x y : Int} (hx : Src c u v k e x) (hy : Src c u v k e y) : Src c u v k e (max x y) := by
  rcases Int.le_total x y with h | h
  · rw [Int.max_eq_right h]; exact hy
  · rw [Int.max_eq_left h]; exact hx
theorem src_near {k e s : Int} (h : Rch c u v k (e - 1) s) : Src c u v k e s := by
  rcases h.1 with h1 | ⟨i, j, rfl, hd⟩
  · exact .inl (by omega)
  · have := (h.2 i j hd).mpr (Int.le_refl _)
    exact .inr ⟨i, j, enD_le hd, hd, by omega⟩
theorem src_sub {k e s : Int} (h0 : ∀ x y, 0 ≤ c x y) (h2 : ∀ x y, c x y ≤ 2) (h : Rch c u v k (e - 2) s) : Src c u v k e (s + 1) := by
  rcases h.1 with h1 | ⟨i, j, rfl, hd⟩
  · exact .inl (by omega)
  · have hdd := (h.2 i j hd).mpr (Int.le_refl _)
    obtain ⟨g1, g2, g3⟩ := hd
    by_cases hlt : i < u.length ∧ j < v.length
    · obtain ⟨x, hx⟩ := get_some hlt.1
      obtain ⟨y, hy⟩ := get_some hlt.2
      have := dd_diag c u v h0 hx hy
      have := h2 x y
      exact .inr ⟨i + 1, j + 1, enD_up (.succ g1 hlt.1 hlt.2), .succ g1 hlt.1 hlt.2, by omega⟩
    · exact .inr ⟨i, j, enD_end ⟨g1, g2, g3⟩ (by omega) (by omega), ⟨g1, g2, g3⟩, by omega⟩
theorem src_ins {k e s : Int} (h0 : ∀ x y, 0 ≤ c x y) (hk : k ≤ (v.length : Int)) (h : Rch c u v (k - 1) (e - 2) s) : Src c u v k e s := by
  rcases h.1 with h1 | ⟨i, j, rfl, hd⟩
  · exact .inl (by omega)
  · have hdd := (h.2 i j hd).mpr (Int.le_refl _)
    obtain ⟨g1, g2, g3⟩ := hd
    by_cases hlt : j < v.length
    · have := dd_insR c u v (i := i) hlt
      exact .inr ⟨i, j + 1, enD_le (.succJ g1 g2 hlt), .succJ g1 g2 hlt, by omega⟩
    · obtain ⟨i', rfl⟩ : ∃ i', i = i' + 1 := ⟨i - 1, by omega⟩
      have := dd_delL c u v h0 (i := i') (j := j) (by omega)
      have hd : InD u v k i' j := ⟨by omega, by omega, by omega⟩
      exact .inr ⟨i', j, enD_end hd (by omega) (.inr (by omega)), hd, by omega⟩
theorem src_del {k e s : Int} (h0 : ∀ x y, 0 ≤ c x y) (hk : -(u.length : Int) ≤ k) (h : Rch c u v (k + 1) (e - 2) s) : Src c u v k e (s + 1) := by
  rcases h.1 with h1 | ⟨i, j, rfl, hd⟩
  · exact .inl (by omega)
  · have hdd := (h.2 i j hd).mpr (Int.le_refl _)
    obtain ⟨g1, g2, g3⟩ := hd
    by_cases hlt : i < u.length
    · have := dd_insL c u v (j := j) hlt
      exact .inr ⟨i + 1, j, enD_up (.succI g1 hlt g3), .succI g1 hlt g3, by omega⟩
    · obtain ⟨j', rfl⟩ : ∃ j', j = j' + 1 := ⟨j - 1, by omega⟩
      have := dd_delR c u v h0 (i := i) (j := j') (by omega)
      have hd : InD u v k i j' := ⟨by omega, by omega, by omega⟩
      exact .inr ⟨i, j', enD_end hd (by omega) (.inl (by omega)), hd, by omega⟩
theorem src_letter {k e : Int} {i j x y : Nat} (h0 : ∀ x y, 0 ≤ c x y) (h : Rch c u v k (e - 1) (i : Int)) (hj : (j : Int) = (i : Int) + k) (hx : u[i]? = some x) (hy : v[j]? = some y) (hc : c x y ≤ 1) : Src c u v k e ((i : Int) + 1) := by
  have h1 := (List.getElem?_eq_some_iff.mp hx).1
  have h2 := (List.getElem?_eq_some_iff.mp hy).1
  have hdd := (h.2 i j ⟨hj, by omega, by omega⟩).mpr (Int.le_refl _)
  have := dd_diag c u v h0 hx hy
  exact .inr ⟨i + 1, j + 1, enD_up (.succ hj h1 h2), .succ hj h1 h2, by omega⟩
theorem src_zero {e : Int} (he : 0 ≤ e) : Src c u v 0 e 0 := by
  refine .inr ⟨0, 0, by unfold enD; omega, ⟨by omega, by omega, by omega⟩, ?_⟩
  rw [dd_zero_left c u v 0 (by omega)]; omega
/-- ahead of the while -/
theorem way_of {k e near s1 s2 s3 x : Int} (h0 : ∀ x y, 0 ≤ c x y) (hi : ∀ x y, c x y = 0 ∨ c x y = 1 ∨ c x y = 2) (he0 : 0 ≤ e) (he : e ≤ 50)
    (hn : Rch c u v k (e - 1) near) (h1 : Rch c u v k (e - 2) s1) (h2 : Rch c u v (k - 1) (e - 2) s2) (h3 : Rch c u v (k + 1) (e - 2) s3) (hs : Src c u v k e x)
    (l0 : near ≤ x) (l1 : s1 + 1 ≤ x) (l2 : s2 ≤ x) (l3 : s3 + 1 ≤ x) (lz : k = 0 → 0 ≤ x)
    (ll : ∀ (i j a b : Nat), near = i → (j : Int) = (i : Int) + k → u[i]? = some a → v[j]? = some b → c a b ≤ 1 → (i : Int) + 1 ≤ x) : Way c u v k e (min x (enD u v k)) := by
  refine ⟨?_, fun i j hd hdd hlt => ?_⟩
  · rcases hs with h | ⟨i, j, h, hd, hdd⟩
    · by_cases hm : enD u v k ≤ e - 90
      · left; omega
      · left; omega
    · exact .inr ⟨i, j, h, hd, hdd⟩
  · have hd0 := hd
    obtain ⟨g1, g2, g3⟩ := hd
    have hxi : x < (i : Int) := by unfold enD at hlt; omega
    cases i with
    | zero =>
      exfalso
      -- the first place of a diagonal to the right
      rw [dd_zero_left c u v j g3] at hdd
      cases j with
      | zero => have := lz (by omega); omega
      | succ j =>
        have := (h2.2 0 j hd0.predJ).mp (by rw [dd_zero_left c u v j (by omega)]; omega)
        omega
    | succ i =>
      cases j with
      | zero =>
        exfalso
        rw [dd_zero_right c u v (i + 1) g2] at hdd
        have := (h3.2 i 0 hd0.predI).mp (by rw [dd_zero_right c u v i (by omega)]; omega)
        omega
      | succ j =>
        obtain ⟨a, ha⟩ := get_some (l := u) (i := i) (by omega)
        obtain ⟨b, hb⟩ := get_some (l := v) (i := j) (by omega)
        refine ⟨i, j, a, b, rfl, rfl, ha, hb, ?_⟩
        rw [dd_succ c u v ha hb] at hdd
        have q1 : ¬ dd c u v i (j + 1) ≤ e - 2 := fun hq => by
          have := (h3.2 i (j + 1) hd0.predI).mp hq
          omega
        have q2 : ¬ dd c u v (i + 1) j ≤ e - 2 := fun hq => by
          have := (h2.2 (i + 1) j hd0.predJ).mp hq
          omega
        have q3 : ¬ dd c u v i j ≤ e - 2 := fun hq => by
          have := (h1.2 i j hd0.pred).mp hq
          omega
        rcases hi a b with hc | hc | hc
        · exact hc
        · exfalso
          have q4 : dd c u v i j ≤ e - 1 := by omega
          have := (hn.2 i j hd0.pred).mp q4
          have hni : near = (i : Int) := by omega
          have := ll i j a b hni (by omega) ha hb (by omega)
          omega
        · exfalso; omega
/-- a turn of the while -/
theorem way_on {k e : Int} {i j x y : Nat} (h0 : ∀ x y, 0 ≤ c x y) (h : Way c u v k e (i : Int)) (he : e ≤ 50) (hj : (j : Int) = (i : Int) + k) (hx : u[i]? = some x) (hy : v[j]? = some y) (hc : c x y = 0) : Way c u v k e ((i : Int) + 1) := by
  have h1 := (List.getElem?_eq_some_iff.mp hx).1
  have h2 := (List.getElem?_eq_some_iff.mp hy).1
  refine ⟨.inr ⟨i + 1, j + 1, rfl, .succ hj h1 h2, ?_⟩, fun i' j' hd hdd hlt => h.2 i' j' hd hdd (by omega)⟩
  rcases h.1 with hn | ⟨i', j', e1, hd, hdd⟩
  · omega
  · have e2 : i' = i := by omega
    subst e2
    have e3 : j' = j := by have := hd.1; omega
    subst e3
    have := dd_diag c u v h0 hx hy
    omega
/-- behind the while -/
theorem way_rch {k e p : Int} (h0 : ∀ x y, 0 ≤ c x y) (h : Way c u v k e p) (he : e ≤ 50) (hstop : ∀ (i j x y : Nat), p = i → (j : Int) = (i : Int) + k → u[i]? = some x → v[j]? = some y → c x y ≠ 0) : Rch c u v k e p := by
  refine ⟨?_, fun i j hd => ⟨fun hdd => ?_, fun hle => ?_⟩⟩
  · rcases h.1 with h1 | ⟨i, j, e1, hd, _⟩
    · exact .inl h1
    · exact .inr ⟨i, j, e1, hd⟩
  · rcases Int.lt_or_le p i with hlt | hge
    · exfalso
      -- all places between are alike
      have down : ∀ d : Nat, ∀ i j : Nat, InD u v k i j → dd c u v i j ≤ e → p + 1 + (d : Int) = (i : Int) ∨ (p < 0 ∧ d = i) → False := by
        intro d
        induction d with
        | zero =>
          intro i j hd hdd he2
          obtain ⟨i', j', x, y, rfl, rfl, hx, hy, hc⟩ := h.2 i j hd hdd (by omega)
          rcases he2 with he2 | ⟨hp, he2⟩
          · exact hstop i' j' x y (by omega) (by have := hd.1; omega) hx hy hc
          · omega
        | succ d ih =>
          intro i j hd hdd he2
          obtain ⟨i', j', x, y, rfl, rfl, hx, hy, hc⟩ := h.2 i j hd hdd (by omega)
          have := dd_mono c u v h0 (i := i') (j := j') hd.2.1 hd.2.2
          exact ih i' j' hd.pred (by omega) (by omega)
      rcases Int.lt_or_le p 0 with hp | hp
      · exact down i i j hd hdd (.inr ⟨hp, rfl⟩)
      · exact down ((i : Int) - p - 1).toNat i j hd hdd (.inl (by omega))
    · exact hge
  · rcases h.1 with h1 | ⟨i', j', e1, hd', hdd⟩
    · omega
    · obtain ⟨g1, g2, g3⟩ := hd
      obtain ⟨g1', g2', g3'⟩ := hd'
      obtain ⟨d, rfl⟩ := Nat.exists_eq_add_of_le (show i ≤ i' by omega)
      obtain rfl : j' = j + d := by omega
      exact Int.le_trans (dd_monos c u v h0 (i := i) (j := j) d g2' g3') hdd
/-- bisect_left among the reaches of a diagonal tells the distance -/
theorem due_is {k : Int} {i j : Nat} {costs r : Nat} {R : Nat → Int} (h0 : ∀ x y, 0 ≤ c x y) (h2 : ∀ x y, c x y ≤ 2) (hR : ∀ e : Nat, e < costs → Rch c u v k e (R e)) (hd : InD u v k i j) (hcost : 2 * max u.length v.length ≤ costs) (hr : r ≤ costs)
    (lo : ∀ e : Nat, e < r → R e < (i : Int)) (hi : ∀ e : Nat, r ≤ e → e < costs → (i : Int) ≤ R e) : (r : Int) = dd c u v i j := by
  have hm : max i j ≤ max u.length v.length := Nat.max_le.mpr ⟨Nat.le_trans hd.2.1 (Nat.le_max_left _ _), Nat.le_trans hd.2.2 (Nat.le_max_right _ _)⟩
  have hle : dd c u v i j ≤ (costs : Int) := Int.le_trans (dd_le c u v h2 hd.2.1 hd.2.2) (by generalize max i j = m1 at hm ⊢; generalize max u.length v.length = m2 at hm hcost; omega)
  have hge := dd_nonneg c u v h0 i j
  have a1 : r < costs → dd c u v i j ≤ r := fun h => ((hR r h).2 i j hd).mpr (hi r (Nat.le_refl _) h)
  have a2 : 0 < r → (r : Int) ≤ dd c u v i j := fun h => by
    have h3 := lo (r - 1) (by omega)
    have h4 : ¬ dd c u v i j ≤ ((r - 1 : Nat) : Int) := fun hq => by
      have := ((hR (r - 1) (by omega)).2 i j hd).mp hq
      omega
    omega
  refine Int.le_antisymm ?_ ?_
  · rcases Nat.eq_zero_or_pos r with h | h
    · rw [h]; exact hge
    · exact a2 h
  · rcases Nat.lt_or_ge r costs with h | h
    · exact a1 h
    · exact Int.le_trans hle (Int.ofNat_le.mpr h)
/-- where the search with a key stands -/
theorem stands_is {k e q : Int} {r : Nat} {lo hi : Int} (hq : Rch c u v k e q) (he : e ≤ 50) (hlo : lo = max 0 (-k)) (hhi : hi = enD u v k + 1) (h1 : lo ≤ r) (h2 : (r : Int) ≤ hi)
    (a1 : ∀ i j : Nat, lo ≤ i → i < r → InD u v k i j → dd c u v i j ≤ e) (a2 : ∀ i j : Nat, r ≤ i → (i : Int) < hi → InD u v k i j → e < dd c u v i j) : (r : Int) = max (max 0 (-k)) (q + 1) := by
  unfold enD at hhi
  have l1 : 0 ≤ lo := by omega
  have l2 : -k ≤ lo := by omega
  have l3 : hi ≤ u.length + 1 := by omega
  have l4 : hi + k ≤ v.length + 1 := by omega
  have b1 : lo < (r : Int) → (r : Int) ≤ q + 1 := fun h => by
    obtain ⟨p, hp⟩ := Int.eq_ofNat_of_zero_le (show 0 ≤ (r : Int) - 1 + k by omega)
    have hd : InD u v k (r - 1) p := ⟨by omega, by omega, by omega⟩
    have := (hq.2 _ _ hd).mp (a1 _ _ (by omega) (by omega) hd)
    omega
  have b2 : (r : Int) ≤ q → False := fun h => by
    rcases hq.1 with h3 | ⟨i, j, e1, hd⟩
    · omega
    · have := (hq.2 i j hd).mpr (by omega)
      have := a2 i j (by omega) (by have := hd.2.1; have := hd.2.2; have := hd.1; omega) hd
      omega
  have b3 : ¬ (r : Int) ≤ q := b2
  by_cases h : lo < (r : Int)
  · have := b1 h
    omega
  · omega
end
end Mine
open PySem PySem.W PyProof.Rows
namespace Mine

/-- the value that a name has in a list of names and values -/
inductive At : List Str → List (Option Value) → Str → Value → Prop
  | head {x : Str} {ns : List Str} {v : Value} {vs : List (Option Value)} : At (x :: ns) (some v :: vs) x v
  | tail {x y : Str} {ns : List Str} {v : Value} {o : Option Value} {vs : List (Option Value)} : At ns vs x v → At (y :: ns) (o :: vs) x v
inductive Put : List Str → List (Option Value) → Str → Value → List (Option Value) → Prop
  | head {x : Str} {ns : List Str} {v : Value} {o : Option Value} {vs : List (Option Value)} : Put (x :: ns) (o :: vs) x v (some v :: vs)
  | tail {x y : Str} {ns : List Str} {v : Value} {o : Option Value} {vs vs' : List (Option Value)} : Put ns vs x v vs' → Put (y :: ns) (o :: vs) x v (o :: vs')

theorem At.mem {ns : List Str} {vs : List (Option Value)} {x : Str} {v : Value} (a : At ns vs x v) : x ∈ ns := by
  induction a with
  | head => exact List.mem_cons_self
  | tail _ ih => exact List.mem_cons_of_mem _ ih
theorem Put.mem {ns : List Str} {vs vs' : List (Option Value)} {x : Str} {v : Value} (a : Put ns vs x v vs') : x ∈ ns := by
  induction a with
  | head => exact List.mem_cons_self
  | tail _ ih => exact List.mem_cons_of_mem _ ih

theorem Put.at {ns : List Str} {vs vs' : List (Option Value)} {x : Str} {w : Value} (p : Put ns vs x w vs') :
    ns.Nodup → ∀ {y : Str} {u : Value}, At ns vs' y u → (y = x ∧ u = w) ∨ (y ≠ x ∧ At ns vs y u) := by
  induction p with
  | head =>
    intro hnd y u a
    cases a with
    | head => exact .inl ⟨rfl, rfl⟩
    | tail a => exact .inr ⟨fun e => (List.nodup_cons.mp hnd).1 (e ▸ a.mem), .tail a⟩
  | tail p ih =>
    intro hnd y u a
    have hx := p.mem
    cases a with
    | head => exact .inr ⟨fun e => (List.nodup_cons.mp hnd).1 (e ▸ hx), .head⟩
    | tail a =>
      rcases ih (List.nodup_cons.mp hnd).2 a with h | h
      · exact .inl h
      · exact .inr ⟨h.1, .tail h.2⟩

/-- the cell of a name: bound or not -/
inductive AtO : List Str → List (Option Value) → Str → Option Value → Prop
  | head {x : Str} {ns : List Str} {v : Option Value} {vs : List (Option Value)} : AtO (x :: ns) (v :: vs) x v
  | tail {x y : Str} {ns : List Str} {v o : Option Value} {vs : List (Option Value)} : AtO ns vs x v → AtO (y :: ns) (o :: vs) x v
theorem AtO.mem {ns : List Str} {vs : List (Option Value)} {x : Str} {v : Option Value} (a : AtO ns vs x v) : x ∈ ns := by
  induction a with
  | head => exact List.mem_cons_self
  | tail _ ih => exact List.mem_cons_of_mem _ ih
theorem At.o {ns : List Str} {vs : List (Option Value)} {x : Str} {v : Value} (a : At ns vs x v) : AtO ns vs x (some v) := by
  induction a with
  | head => exact .head
  | tail _ ih => exact .tail ih
theorem Put.o {ns : List Str} {vs vs' : List (Option Value)} {x : Str} {w : Value} (p : Put ns vs x w vs') : ∃ o, AtO ns vs x o := by
  induction p with
  | head => exact ⟨_, .head⟩
  | tail _ ih => exact ⟨_, .tail ih.choose_spec⟩
theorem Put.atO {ns : List Str} {vs vs' : List (Option Value)} {x : Str} {w : Value} (p : Put ns vs x w vs') :
    ns.Nodup → ∀ {y : Str} {u : Option Value}, AtO ns vs' y u → (y = x ∧ u = some w) ∨ (y ≠ x ∧ AtO ns vs y u) := by
  induction p with
  | head =>
    intro hnd y u a
    cases a with
    | head => exact .inl ⟨rfl, rfl⟩
    | tail a => exact .inr ⟨fun e => (List.nodup_cons.mp hnd).1 (e ▸ a.mem), .tail a⟩
  | tail p ih =>
    intro hnd y u a
    have hx := p.mem
    cases a with
    | head => exact .inr ⟨fun e => (List.nodup_cons.mp hnd).1 (e ▸ hx), .head⟩
    | tail a =>
      rcases ih (List.nodup_cons.mp hnd).2 a with h | h
      · exact .inl h
      · exact .inr ⟨h.1, .tail h.2⟩

abbrev Led := List (Addr × (Obj → Prop))
/-- an object that is a list -/
def LstO (vs : List Value) : Obj → Prop := fun o => o.cls = .type "list" ∧ ∃ n, o.data = .seq vs.toArray n

/-- what is known of the heap of the program's top, at every heap above it -/
structure Stable (G : Heap → Prop) : Prop where
  up : ∀ h h' : Heap, G h → (∀ b o, h.get? b = some o → h'.get? b = some o) → G h'

structure FS (G : Heap → Prop) (own : Bool) (s₀ : Shared) (env : Env) (ns : List Str) (vs : List (Option Value)) (cns : List Str) (cvs : List (Option Value)) (led : Led) (s : Shared) : Prop where
  same : ∃ h tk, s = { s₀ with heap := h, toks := tk }
  keep : ∀ b o, s₀.heap.get? b = some o → s.heap.get? b = some o
  g : G s₀.heap
  nd : ns.Nodup
  cnd : cns.Nodup
  vars : ∃ m, s.heap.Ns env.locals m ∧ ∀ x v, At ns vs x v → m x = some v
  cells : ∀ x o, AtO cns cvs x o → ∃ c, env.cells.lookup x = some c ∧ s.heap.IsCell c o ∧ (own = true → s₀.heap.get? c = none) ∧ c ≠ env.locals ∧ ∀ p ∈ led, p.1 ≠ c
  inj : ∀ x y c, env.cells.lookup x = some c → env.cells.lookup y = some c → x = y
  has : ∀ p ∈ led, (∃ o, s.heap.get? p.1 = some o ∧ p.2 o) ∧ p.1 ≠ env.locals ∧ s₀.heap.get? p.1 = none
  apart : led.Pairwise fun x y => x.1 ≠ y.1
  fresh : own = true → s₀.heap.get? env.locals = none

theorem Keeps.refl' (s : Shared) : Keeps s s := ⟨s.heap, s.toks, rfl, fun _ _ e => e⟩
theorem Keeps.trans' {s₁ s₂ s₃ : Shared} (a : Keeps s₁ s₂) (b : Keeps s₂ s₃) : Keeps s₁ s₃ := by
  obtain ⟨h, tk, rfl, k⟩ := a
  obtain ⟨h', tk', rfl, k'⟩ := b
  exact ⟨h', tk', rfl, fun b o e => k' b o (k b o e)⟩
theorem Keeps.up {s₁ s₂ : Shared} (a : Keeps s₁ s₂) : ∀ b o, s₁.heap.get? b = some o → s₂.heap.get? b = some o := by
  obtain ⟨h, tk, rfl, k⟩ := a
  exact k
theorem keeps_tok (s : Shared) (n : Nat) : Keeps s { s with toks := n } := ⟨s.heap, n, rfl, fun _ _ e => e⟩
theorem keeps_of {s : Shared} {h : Heap} {n : Nat} (k : ∀ b o, s.heap.get? b = some o → h.get? b = some o) : Keeps s { s with heap := h, toks := n } := ⟨h, n, rfl, k⟩

section
variable {G : Heap → Prop} {own : Bool} {s₀ : Shared} {env : Env} {ns cns : List Str} {vs cvs : List (Option Value)} {led : Led} {s : Shared}

theorem FS.keeps (H : FS G own s₀ env ns vs cns cvs led s) {s' : Shared} (k : Keeps s s') : FS G own s₀ env ns vs cns cvs led s' := by
  obtain ⟨h, tk, rfl, k⟩ := k
  obtain ⟨h1, tk1, hs⟩ := H.same
  refine ⟨⟨h, tk, by rw [hs]⟩, fun b o e => k b o (H.keep b o e), H.g, H.nd, H.cnd, ?_, ?_, H.inj, ?_, H.apart, H.fresh⟩
  · obtain ⟨m, hm, hv⟩ := H.vars
    exact ⟨m, hm.keeps k, hv⟩
  · intro x o a
    obtain ⟨c, h1, h2, h3⟩ := H.cells x o a
    exact ⟨c, h1, h2.keeps k, h3⟩
  · intro p hp
    obtain ⟨⟨o, ho, hq⟩, r⟩ := H.has p hp
    exact ⟨⟨o, k _ _ ho, hq⟩, r⟩

theorem FS.gg (SG : Stable G) (H : FS G own s₀ env ns vs cns cvs led s) : G s.heap := SG.up _ _ H.g H.keep
theorem FS.kept (H : FS G own s₀ env ns vs cns cvs led s) : Keeps s₀ s := by
  obtain ⟨h, tk, rfl⟩ := H.same
  exact ⟨h, tk, rfl, H.keep⟩

/-- a plain list -/
def PlO (vs : List Value) : Obj → Prop := fun o => ∃ n, o = ({ cls := .type "list", data := .seq vs.toArray n } : Obj)
theorem PlO.lst {vs : List Value} {o : Obj} (h : PlO vs o) : LstO vs o := by
  obtain ⟨n, rfl⟩ := h
  exact ⟨rfl, n, rfl⟩
theorem FS.lstP (H : FS G own s₀ env ns vs cns cvs led s) {a : Addr} {xs : List Value} (hm : (a, PlO xs) ∈ led) : s.heap.IsList a xs.toArray := by
  obtain ⟨⟨o, ho, hq⟩, _⟩ := H.has _ hm
  exact ⟨o, ho, hq.lst.1, hq.lst.2⟩
theorem FS.base (H : FS G own s₀ env ns vs cns cvs led s) {a : Addr} {xs : List Value} (hb : s₀.heap.IsList a xs.toArray) : s.heap.IsList a xs.toArray := hb.at fun o e => H.keep _ o e
theorem FS.lst (H : FS G own s₀ env ns vs cns cvs led s) {a : Addr} {xs : List Value} (hm : (a, LstO xs) ∈ led) : s.heap.IsList a xs.toArray := by
  obtain ⟨⟨o, ho, hq⟩, _⟩ := H.has _ hm
  exact ⟨o, ho, hq.1, hq.2⟩

/-- a new object, made by what keeps all else -/
theorem FS.new (H : FS G own s₀ env ns vs cns cvs led s) {s' : Shared} (k : Keeps s s') {a : Addr} {P : Obj → Prop} (hf : s.heap.get? a = none) (hp : ∃ o, s'.heap.get? a = some o ∧ P o) :
    FS G own s₀ env ns vs cns cvs ((a, P) :: led) s' := by
  have H' := H.keeps k
  refine { H' with cells := ?_, has := ?_, apart := ?_ }
  · intro x o b
    obtain ⟨c, h1, h2, h3, h4, h5⟩ := H'.cells x o b
    refine ⟨c, h1, h2, h3, h4, fun p hp => ?_⟩
    rcases List.mem_cons.mp hp with rfl | hp
    · obtain ⟨c', e, h2', _⟩ := H.cells x o b
      rw [h1] at e; cases e
      obtain ⟨oc, hoc, _⟩ := h2'
      intro e; subst e; rw [hf] at hoc; cases hoc
    · exact h5 p hp
  · intro p hq
    rcases List.mem_cons.mp hq with rfl | hq
    · refine ⟨hp, ?_, ?_⟩
      · obtain ⟨m, ⟨o, _, _, ho, _⟩, _⟩ := H.vars
        intro e; simp only at e; subst e; rw [hf] at ho; cases ho
      · cases e : s₀.heap.get? a with
        | none => rfl
        | some o => rw [H.keep a o e] at hf; cases hf
    · exact H'.has p hq
  · refine List.pairwise_cons.mpr ⟨fun y hy e => ?_, H.apart⟩
    obtain ⟨⟨o, ho, _⟩, _⟩ := H.has y hy
    simp only at e
    rw [← e, hf] at ho; cases ho

theorem FS.sub (H : FS G own s₀ env ns vs cns cvs led s) {led' : Led} (hs : led'.Sublist led) : FS G own s₀ env ns vs cns cvs led' s :=
  { H with
    cells := fun x o a => let ⟨c, h1, h2, h3, h4, h5⟩ := H.cells x o a; ⟨c, h1, h2, h3, h4, fun p hp => h5 p (hs.mem hp)⟩
    has := fun p hp => H.has p (hs.mem hp)
    apart := H.apart.sublist hs }
theorem FS.drop (H : FS G own s₀ env ns vs cns cvs led s) {p : Addr × (Obj → Prop)} {led' : Led} (e : led = p :: led') : FS G own s₀ env ns vs cns cvs led' s := by
  subst e; exact H.sub (List.sublist_cons_self _ _)

/-- the value of a list of the frame's own is turned -/
theorem FS.setAt (H : FS G own s₀ env ns vs cns cvs led s) {i : Nat} {a : Addr} {P P' : Obj → Prop} {h' : Heap} {n : Nat} (hi : led[i]? = some (a, P)) (hs : ∀ b o, b ≠ a → s.heap.get? b = some o → h'.get? b = some o)
    (hp : ∃ o, h'.get? a = some o ∧ P' o) : FS G own s₀ env ns vs cns cvs (led.set i (a, P')) { s with heap := h', toks := n } := by
  have hm : (a, P) ∈ led := List.mem_of_getElem? hi
  obtain ⟨_, haL, ha0⟩ := H.has _ hm
  obtain ⟨h1, tk1, hs1⟩ := H.same
  have hlt : i < led.length := (List.getElem?_eq_some_iff.mp hi).1
  have hfst : (led.set i (a, P')).map (·.1) = led.map (·.1) := by
    rw [List.map_set]
    apply List.ext_getElem?
    intro j
    rw [List.getElem?_set]
    split
    · rename_i e; subst e
      have e2 : led[i] = (a, P) := (List.getElem?_eq_some_iff.mp hi).2
      simp [hlt, e2]
    · rfl
  have hfm : ∀ p ∈ led.set i (a, P'), ∃ q ∈ led, q.1 = p.1 := fun p hp => by
    have : p.1 ∈ (led.set i (a, P')).map (·.1) := List.mem_map_of_mem hp
    rw [hfst] at this
    obtain ⟨q, hq, e⟩ := List.mem_map.mp this
    exact ⟨q, hq, e⟩
  have hap := List.pairwise_iff_getElem.mp H.apart
  refine ⟨⟨h', n, by rw [hs1]⟩, fun b o e => ?_, H.g, H.nd, H.cnd, ?_, ?_, H.inj, ?_, ?_, H.fresh⟩
  · have hba : b ≠ a := by rintro rfl; simp only at ha0; rw [ha0] at e; cases e
    exact hs b o hba (H.keep b o e)
  · obtain ⟨m, hm', hv⟩ := H.vars
    exact ⟨m, hm'.at' fun o e => hs _ o (Ne.symm haL) e, hv⟩
  · intro x o b
    obtain ⟨c, h1, h2, h3, h4, h5⟩ := H.cells x o b
    refine ⟨c, h1, (let ⟨oc, e1, e2⟩ := h2; ⟨oc, hs _ _ (Ne.symm (h5 _ hm)) e1, e2⟩), h3, h4, fun p hp => ?_⟩
    obtain ⟨q, hq, e⟩ := hfm p hp
    rw [← e]; exact h5 q hq
  · intro p hpm
    obtain ⟨j, hj⟩ := List.mem_iff_getElem?.mp hpm
    rw [List.getElem?_set] at hj
    split at hj
    · rename_i e
      cases hj
      exact ⟨hp, haL, ha0⟩
    · rename_i hne
      obtain ⟨⟨o, ho, hq⟩, r⟩ := H.has p (List.mem_of_getElem? hj)
      have hpa : p.1 ≠ a := by
        have hjl : j < led.length := (List.getElem?_eq_some_iff.mp hj).1
        have e1 : led[j] = p := (List.getElem?_eq_some_iff.mp hj).2
        have e2 : led[i] = (a, P) := (List.getElem?_eq_some_iff.mp hi).2
        rcases Nat.lt_or_gt_of_ne hne with hl | hl
        · have := hap i j hlt hjl hl
          rw [e1, e2] at this; exact Ne.symm this
        · have := hap j i hjl hlt hl
          rw [e1, e2] at this; exact this
      exact ⟨⟨o, hs _ _ hpa ho, hq⟩, r⟩
  · have : (led.map (·.1)).Pairwise (· ≠ ·) := List.pairwise_map.mpr H.apart
    rw [← hfst] at this
    exact List.pairwise_map.mp this
end
end Mine
namespace Mine

/-- a frame's names -/
structure EnvIs (env : Env) (nk : List (Str × NameKind)) : Prop where
  names : env.scope.names = nk
  kind : env.scope.kind = .function
  glob : env.globals = mainGlobals
  bi : env.builtins = builtinsNs
  nodebug : nk.lookup (Str.ofString "__debug__") = none
theorem EnvIs.of {env : Env} {nk : List (Str × NameKind)} (hE : EnvIs env nk) {x : Str} {k : NameKind} (h : nk.lookup x = some k) : env.kindOf x = some k := by
  unfold Env.kindOf; rw [hE.names]; exact h
theorem EnvIs.nd {env : Env} {nk : List (Str × NameKind)} (hE : EnvIs env nk) {x : Str} {k : NameKind} (h : nk.lookup x = some k) : (x == ("__debug__" : Str)) = false := by
  cases e : (x == ("__debug__" : Str)) with
  | false => rfl
  | true =>
    have e' := eq_of_beq e
    subst e'
    rw [show (("__debug__" : Str)) = Str.ofString "__debug__" from rfl, hE.nodebug] at h
    cases h

section
variable {G : Heap → Prop} {own : Bool} {s₀ : Shared} {env : Env} {nk : List (Str × NameKind)} {ns cns : List Str} {vs cvs : List (Option Value)} {led : Led} {s : Shared}
variable {M : Model} {A : Around} {E : Value → Shared → Prop}

theorem ldL (H : FS G own s₀ env ns vs cns cvs led s) (hE : EnvIs env nk) {x : Str} {v : Value} {Q : Value → Shared → Prop} (ha : At ns vs x v) (hk : nk.lookup x = some .local) (h : Q v s) :
    wpAny M A (loadName env x) Q E s := by
  obtain ⟨m, hm, hv⟩ := H.vars
  exact wpAny_loadName_local hE.kind (hE.of hk) hm (hv x v ha) h
theorem ldC (H : FS G own s₀ env ns vs cns cvs led s) (hE : EnvIs env nk) {x : Str} {v : Value} {Q : Value → Shared → Prop} (ha : At cns cvs x v) (hk : nk.lookup x = some .cell) (h : Q v s) :
    wpAny M A (loadName env x) Q E s := by
  obtain ⟨c, h1, h2, _⟩ := H.cells x (some v) ha.o
  exact wpAny_loadName_cell hE.kind (hE.of hk) h1 h2 h
theorem nmL (H : FS G own s₀ env ns vs cns cvs led s) (hE : EnvIs env nk) {x : Str} {pos : Pos} {v : Value} {Q : Value → Shared → Prop} (ha : At ns vs x v) (hk : nk.lookup x = some .local) (h : Q v s) :
    wpAny M A (eval (.Name x pos) env) Q E s := wpAny_Name (ldL H hE ha hk h) (hE.nd hk)
theorem nmC (H : FS G own s₀ env ns vs cns cvs led s) (hE : EnvIs env nk) {x : Str} {pos : Pos} {v : Value} {Q : Value → Shared → Prop} (ha : At cns cvs x v) (hk : nk.lookup x = some .cell) (h : Q v s) :
    wpAny M A (eval (.Name x pos) env) Q E s := wpAny_Name (ldC H hE ha hk h) (hE.nd hk)
/-- a name of the top -/
def GName (G : Heap → Prop) (x : Str) (v : Value) : Prop := ∀ h : Heap, G h → ∃ mg, h.Ns mainGlobals mg ∧ mg x = some v
def BName (G : Heap → Prop) (x : Str) (v : Value) : Prop := ∀ h : Heap, G h → ∃ mg mb, h.Ns mainGlobals mg ∧ mg x = none ∧ h.Ns builtinsNs mb ∧ mb x = some v
theorem nmG (SG : Stable G) (H : FS G own s₀ env ns vs cns cvs led s) (hE : EnvIs env nk) {x : Str} {pos : Pos} {v : Value} {Q : Value → Shared → Prop} (hk : nk.lookup x = some .globalImplicit) (hg : GName G x v) (h : Q v s) :
    wpAny M A (eval (.Name x pos) env) Q E s := by
  obtain ⟨mg, h1, h2⟩ := hg _ (H.gg SG)
  exact Calls.Name_function_global hE.kind (hE.of hk) (Calls.loadGlobal_global (by rw [hE.glob]; exact h1) h2 h) (hE.nd hk)
theorem nmB (SG : Stable G) (H : FS G own s₀ env ns vs cns cvs led s) (hE : EnvIs env nk) {x : Str} {pos : Pos} {v : Value} {Q : Value → Shared → Prop} (hk : nk.lookup x = some .globalImplicit) (hg : BName G x v) (h : Q v s) :
    wpAny M A (eval (.Name x pos) env) Q E s := by
  obtain ⟨mg, mb, h1, h2, h3, h4⟩ := hg _ (H.gg SG)
  exact Calls.Name_function_global hE.kind (hE.of hk) (Calls.loadGlobal_builtin (by rw [hE.glob]; exact h1) h2 (by rw [hE.bi]; exact h3) h4 h) (hE.nd hk)

theorem scope_plain (hE : EnvIs env nk) : (env.scope.kind == .class || (env.scope.kind == .module && env.locals != env.globals)) = false := by rw [hE.kind]; rfl

/-- a name of the frame is bound -/
theorem stL (H : FS G true s₀ env ns vs cns cvs led s) (hE : EnvIs env nk) {x : Str} {v : Value} {vs' : List (Option Value)} {Q : Unit → Shared → Prop} (hp : Put ns vs x v vs') (hk : nk.lookup x = some .local)
    (h : ∀ s', FS G true s₀ env ns vs' cns cvs led s' → Q () s') : wpAny M A (storeName env x v) Q E s := by
  obtain ⟨m, hm, hv⟩ := H.vars
  refine wpAny_storeName_local (hE.of hk) hm (fun h' hn hs => h _ ?_) (scope_plain hE)
  obtain ⟨h1, tk1, hs1⟩ := H.same
  have hL := H.fresh rfl
  refine ⟨⟨h', s.toks + 1, by rw [hs1]⟩, fun b o e => ?_, H.g, H.nd, H.cnd, ⟨_, hn, fun y u a => ?_⟩, fun y o a => ?_, H.inj, fun p hq => ?_, H.apart, H.fresh⟩
  · exact (hs.2 b (by rintro rfl; rw [hL] at e; cases e)).trans (H.keep b o e)
  · rcases hp.at H.nd a with ⟨rfl, rfl⟩ | ⟨hne, a'⟩
    · simp
    · simp only [hne, if_false]; exact hv y u a'
  · obtain ⟨c, h1, h2, h3, h4, h5⟩ := H.cells y o a
    exact ⟨c, h1, h2.sameBut hs h4, h3, h4, h5⟩
  · obtain ⟨⟨o, ho, q⟩, r⟩ := H.has p hq
    exact ⟨⟨o, (hs.2 _ r.1).trans ho, q⟩, r⟩
theorem stC (H : FS G true s₀ env ns vs cns cvs led s) (hE : EnvIs env nk) {x : Str} {v : Value} {cvs' : List (Option Value)} {Q : Unit → Shared → Prop} (hp : Put cns cvs x v cvs') (hk : nk.lookup x = some .cell)
    (h : ∀ s', FS G true s₀ env ns vs cns cvs' led s' → Q () s') : wpAny M A (storeName env x v) Q E s := by
  obtain ⟨o₀, ao⟩ := hp.o
  obtain ⟨c, h1, h2, h3, h4, h5⟩ := H.cells x o₀ ao
  refine wpAny_storeName_cell hE.kind (hE.of hk) h1 h2 fun h' hc hs => h _ ?_
  obtain ⟨hh, tk1, hs1⟩ := H.same
  have hc0 := h3 rfl
  refine ⟨⟨h', s.toks, by rw [hs1]⟩, fun b o e => ?_, H.g, H.nd, H.cnd, ?_, fun y o a => ?_, H.inj, fun p hq => ?_, H.apart, H.fresh⟩
  · exact (hs.2 b (by rintro rfl; rw [hc0] at e; cases e)).trans (H.keep b o e)
  · obtain ⟨m, hm, hv⟩ := H.vars
    exact ⟨m, hm.sameBut hs (Ne.symm h4), hv⟩
  · rcases hp.atO H.cnd a with ⟨rfl, rfl⟩ | ⟨hne, a'⟩
    · exact ⟨c, h1, hc, h3, h4, h5⟩
    · obtain ⟨c', g1, g2, g3, g4, g5⟩ := H.cells y o a'
      have hcc : c' ≠ c := by rintro rfl; exact hne (H.inj _ _ _ g1 h1)
      exact ⟨c', g1, g2.sameBut hs hcc, g3, g4, g5⟩
  · obtain ⟨⟨o, ho, q⟩, r⟩ := H.has p hq
    exact ⟨⟨o, (hs.2 _ (h5 p hq)).trans ho, q⟩, r⟩
end

section
variable {G : Heap → Prop} {own : Bool} {s₀ : Shared} {env : Env} {ns cns : List Str} {vs cvs : List (Option Value)} {led : Led} {s : Shared}
variable {prog : Program} {w : World} {A : Around} {E : Value → Shared → Prop}

/-- constants -/
theorem cInt (H : FS G own s₀ env ns vs cns cvs led s) {i : Int} {k : Nat} {pos : Pos} {Q : Value → Shared → Prop} (h : ∀ t s', FS G own s₀ env ns vs cns cvs led s' → Q (.int i t) s') :
    wpAny (model prog w) A (eval (.Constant (.int i) k pos) env) Q E s := wpAny_Constant_int (h _ _ (H.keeps (keeps_tok _ _)))
theorem cStr (H : FS G own s₀ env ns vs cns cvs led s) {x : Str} {k : Nat} {pos : Pos} {Q : Value → Shared → Prop} (h : ∀ t s', FS G own s₀ env ns vs cns cvs led s' → Q (.str x t) s') :
    wpAny (model prog w) A (eval (.Constant (.str x) k pos) env) Q E s := wpAny_Constant_str (h _ _ (H.keeps (keeps_tok _ _)))
theorem cBool {c : Bool} {k pos} {Q : Value → Shared → Prop} (h : Q (.bool c) s) : wpAny (model prog w) A (eval (.Constant (.bool c) k pos) env) Q E s := Constant_bool h
theorem cNone {k pos} {Q : Value → Shared → Prop} (h : Q .none s) : wpAny (model prog w) A (eval (.Constant .none k pos) env) Q E s := Constant_none h

/-- ints -/
theorem addI (H : FS G own s₀ env ns vs cns cvs led s) {a b : Int} {t u : Tok} {Q : Value → Shared → Prop} (h : ∀ t s', FS G own s₀ env ns vs cns cvs led s' → Q (.int (a + b) t) s') :
    wpAny (model prog w) A (binaryOp .Add (.int a t) (.int b u)) Q E s := add_int (h _ _ (H.keeps (keeps_tok _ _)))
theorem subI (H : FS G own s₀ env ns vs cns cvs led s) {a b : Int} {t u : Tok} {Q : Value → Shared → Prop} (h : ∀ t s', FS G own s₀ env ns vs cns cvs led s' → Q (.int (a - b) t) s') :
    wpAny (model prog w) A (binaryOp .Sub (.int a t) (.int b u)) Q E s := PyProof.Rows.sub_int (h _ _ (H.keeps (keeps_tok _ _)))
theorem mulI (H : FS G own s₀ env ns vs cns cvs led s) {a b : Int} {t u : Tok} {Q : Value → Shared → Prop} (hm : IntMulOk a b) (h : ∀ t s', FS G own s₀ env ns vs cns cvs led s' → Q (.int (a * b) t) s') :
    wpAny (model prog w) A (binaryOp .Mult (.int a t) (.int b u)) Q E s := PyProof.Rows.mul_int (h _ _ (H.keeps (keeps_tok _ _))) hm
theorem modI (H : FS G own s₀ env ns vs cns cvs led s) {a b : Int} {t u : Tok} {Q : Value → Shared → Prop} (hb : b ≠ 0) (h : ∀ t s', FS G own s₀ env ns vs cns cvs led s' → Q (.int (a.fmod b) t) s') :
    wpAny (model prog w) A (binaryOp .Mod (.int a t) (.int b u)) Q E s := mod_int' hb (h _ _ (H.keeps (keeps_tok _ _)))
theorem negI (H : FS G own s₀ env ns vs cns cvs led s) {a : Int} {t : Tok} {Q : Value → Shared → Prop} (h : ∀ t s', FS G own s₀ env ns vs cns cvs led s' → Q (.int (-a) t) s') :
    wpAny (model prog w) A (unaryOp .USub (.int a t)) Q E s := PyProof.Rows.neg_int (h _ _ (H.keeps (keeps_tok _ _)))
end
end Mine
namespace Mine

/-- a text by its signs -/
def S (l : List Nat) : Str := ⟨l.toArray⟩
theorem S_len (l : List Nat) : (S l).length = l.length := by simp [S, Str.length]
theorem S_inj {a b : List Nat} : S a = S b ↔ a = b := by
  constructor
  · intro h; have := congrArg Str.cps h; simpa [S] using this
  · rintro rfl; rfl
theorem S_beq (a b : List Nat) : (S a == S b) = decide (a = b) := by
  by_cases h : a = b
  · subst h; simp
  · simp [h, S_inj]

theorem slice_drop (l : List Nat) {i : Int} (h0 : 0 ≤ i) (h1 : i ≤ l.length) : Txt.slice (S l) (some i) none = S (l.drop i.toNat) := by
  rw [slice_from_eq (b := (l.length : Int)) h0 (by rw [S_len]; exact h1) (by rw [S_len])]
  have : (S l).cps.toList = l := by simp [S]
  rw [this, List.take_of_length_le (by rw [List.length_drop]; omega)]; rfl
theorem slice_take (l : List Nat) {j : Int} (h0 : 0 ≤ j) (h1 : j ≤ l.length) : Txt.slice (S l) none (some j) = S (l.take j.toNat) := by
  have h := slice_closes_to (x := S l) (j := j) ⟨h0, by simpa [S] using h1⟩
  rw [beq_iff_eq] at h
  rw [h]
  simp [S]
theorem slice_whole (l : List Nat) : Txt.slice (S l) none none = S l := by
  unfold Txt.slice
  split
  · rfl
  · rename_i h
    exfalso; apply h
    rw [PySem.StrLaws.sliceIdx_none_lo, PySem.StrLaws.sliceIdx_none_hi]
    have := PySem.StrLaws.strSliceIndices_plain (a := 0) (b := (S l).length) (len := (S l).length) (Nat.zero_le _) (Nat.le_refl _)
    simp only [Int.ofNat_zero] at this ⊢
    simp at this
    simp [this]
theorem slice_neg (l : List Nat) {j : Int} (h0 : j < 0) (h1 : -(l.length : Int) ≤ j) : Txt.slice (S l) none (some j) = S (l.take (l.length + j).toNat) := by
  have e : Txt.slice (S l) none (some j) = Txt.slice (S l) none (some (j + l.length)) := by
    unfold Txt.slice
    rw [S_len, PySem.StrLaws.sliceIdx_neg_hi none l.length h0 h1]
  rw [e, slice_take l (by omega) (by omega), Int.add_comm]

/-- a slice read -/
def sliceTree (value slice : Expr) (o l u : Value) : Sem Value := newFields "slice" [l, u, .none] >>= fun i => subscriptTail value slice o i

section
variable {M : Model} {A : Around} {E : Value → Shared → Prop} {s : Shared} {env : Env}
theorem evSlice {value : Expr} {lo hi : Option Expr} {p pos : Pos} {Q : Value → Shared → Prop}
    (h : wpAny M A (eval value env) (fun o s₁ => wpAny M A (evalPart lo env) (fun l s₂ => wpAny M A (evalPart hi env) (fun u s₃ => wpAny M A (sliceTree value (.Slice lo hi none p) o l u) Q E s₃) E s₂) E s₁) E s) :
    wpAny M A (eval (.Subscript value (.Slice lo hi none p) pos) env) Q E s := by
  refine Subscript_ (wpAny_mono h (fun o s₁ h₁ => wpAny_Slice (wpAny_mono h₁ (fun l s₂ h₂ => wpAny_mono h₂ (fun u s₃ h₃ => wpAny_evalPart_none ?_) fun _ _ x => x) fun _ _ x => x)) fun _ _ x => x)
  have h3 := h₃
  unfold sliceTree at h3
  intro Γ p' hΓ
  have := h3 Γ p' hΓ
  rw [Sem.wp_bind'] at this
  have step : ∀ (Q' : Value → Pos → Shared → Prop) (E' : Value → Pos → Shared → Prop), Sem.wp M Γ (newFields "slice" [l, u, .none]) Q' E' p' s₃ → Q' (.ref s₃.heap.objs.size) p' { s₃ with heap := s₃.heap.push { cls := .type "slice", data := .fields #[l, u, .none] } } := by
    intro Q' E' hh
    exact hh
  exact step _ _ this
end
end Mine
namespace Mine

section
variable {prog : Program} {w : World} {A : Around} {E : Value → Shared → Prop} {s : Shared}

/-- a subscript's end, whatever the base is -/
theorem subTail {value slice : Expr} {o i : Value} {T id : String} {ops : List Value} {Q : Value → Shared → Prop} (hT : s.TypeIs o T)
    (hl : typeLookup (.type T) "__getitem__" = pure (some (.builtin id))) (h : wpAny (model prog w) A (getItem o i) Q E s)
    (hs : subscripted slice false o i = operate ops (getItem o i)) :
    wpAny (model prog w) A (subscriptTail value slice o i) Q E s := by
  unfold subscriptTail
  refine wpAny_bind ?_
  rw [getitemInPython_of_ne hT.not_modules]
  refine wpAny_bind (wpAny_specialOf hT hl ?_)
  have fin : wpAny (model prog w) A (subscripted slice false o i) (fun r s₃ => wpAny (model prog w) A (letTemporaryGo value o r >>= fun _ => pure r) Q E s₃) E s := by
    rw [hs]
    exact wpAny_operating (wpAny_mono h (fun r s₃ h₃ => wpAny_bind (wpAny_letTemporaryGo (wpAny_pure h₃))) fun _ _ x => x)
  first
    | exact wpAny_pure (wpAny_bind fin)
    | exact wpAny_bind (wpAny_pure (wpAny_bind fin))
    | exact wpAny_bind fin
end

section
variable {G : Heap → Prop} {own : Bool} {s₀ : Shared} {env : Env} {ns cns : List Str} {vs cvs : List (Option Value)} {led : Led} {s : Shared}
variable {prog : Program} {w : World} {A : Around} {E : Value → Shared → Prop}

theorem keeps_push (s : Shared) (o : Obj) (n : Nat) : Keeps s { s with heap := s.heap.push o, toks := n } := keeps_of fun _ _ e => Heap.get?_push_of_some _ e
theorem fresh_size (h : Heap) : h.get? h.objs.size = none := Heap.get?_none_of_le (Nat.le_refl _)

/-- a text's slice -/
theorem slS {value : Expr} {lo hi : Option Expr} {p : Pos} {x : Str} {t : Tok} {l u : Value} {ol ou : Option Int} {y : Str} {Q : Value → Shared → Prop} (H : FS G own s₀ env ns vs cns cvs led s)
    (pl : IsPart l ol) (pu : IsPart u ou) (hsz : x.length ≤ sizeLine) (hy : Txt.slice x ol ou = y) (h : ∀ t s', FS G own s₀ env ns vs cns cvs led s' → Q (.str y t) s') :
    wpAny (model prog w) A (sliceTree value (.Slice lo hi none p) (.str x t) l u) Q E s := by
  subst hy
  unfold sliceTree
  refine wpAny_bind (wpAny_newObj_type ?_)
  have hk : PySem.KeptByPush (Keeps s) := fun s' o k hh => Keeps.trans' hh (keeps_push s' o k)
  cases pl <;> cases pu
  all_goals (refine tail_of_ItemOn (ops := [.ref s.heap.objs.size, .str x t]) ?_ rfl (fun r => by cases value <;> rfl))
  · exact SBG.sliceItem_nn hk (Keeps.refl' s) (fun s' t' k => h _ _ (H.keeps k)) hsz
  · exact SBG.sliceItem_ns hk (Keeps.refl' s) (fun s' t' k => h _ _ (H.keeps k)) hsz
  · exact SBG.sliceItem_sn hk (Keeps.refl' s) (fun s' t' k => h _ _ (H.keeps k)) hsz
  · exact SBG.sliceItem_ss hk (Keeps.refl' s) (fun s' t' k => h _ _ (H.keeps k)) hsz

/-- a list's slice -/
theorem slL {value : Expr} {lo hi : Option Expr} {p : Pos} {a : Addr} {xs ys : List Value} {l u : Value} {ol ou : Option Int} {Q : Value → Shared → Prop} (H : FS G own s₀ env ns vs cns cvs led s)
    (hl : s.heap.IsList a xs.toArray) (pl : IsPart l ol) (pu : IsPart u ou) (hsz : xs.length ≤ sizeLine) (hy : slicePick xs.toArray ol ou none = ys.toArray)
    (h : ∀ b s', FS G own s₀ env ns vs cns cvs ((b, PlO ys) :: led) s' → Q (.ref b) s') :
    wpAny (model prog w) A (sliceTree value (.Slice lo hi none p) (.ref a) l u) Q E s := by
  unfold sliceTree
  refine wpAny_bind (wpAny_newObj_type ?_)
  have k1 := keeps_push s { cls := .type "slice", data := .fields #[l, u, .none] } s.toks
  have hl1 : ({ s with heap := s.heap.push { cls := .type "slice", data := .fields #[l, u, .none] } } : Shared).heap.IsList a xs.toArray := hl.push _
  refine subTail (Heap.IsList.typeIs hl1) list_getitem_lookup (wpAny_getItem_list_slice hl1 (Heap.IsSliceOf.new ..) pl pu .none (by simp) ?_ (by simpa using hsz)) rfl
  refine h _ _ ((H.keeps k1).new (keeps_push _ _ _) (fresh_size _) ⟨_, Heap.get?_push_size _ rfl, 0, ?_⟩)
  rw [hy]

theorem idxL {value slice : Expr} {a : Addr} {xs : List Value} {k : Int} {t : Tok} {x : Value} {Q : Value → Shared → Prop} (hl : s.heap.IsList a xs.toArray) (h0 : 0 ≤ k) (h1 : k < 2 ^ 63)
    (hx : xs[k.toNat]? = some x) (hs : subscripted slice false (.ref a) (.int k t) = operate [.ref a, .int k t] (getItem (.ref a) (.int k t))) (h : Q x s) :
    wpAny (model prog w) A (subscriptTail value slice (.ref a) (.int k t)) Q E s :=
  subTail hl.typeIs list_getitem_lookup (wpAny_getItem_list hl h0 h1 (by simpa using hx) h) hs
/-- a sign of a text -/
theorem idxS {value slice : Expr} {l : List Nat} {k : Int} {t u : Tok} {c : Nat} {j : Nat} {Q : Value → Shared → Prop} (H : FS G own s₀ env ns vs cns cvs led s) (hb : -(2 ^ 62) ≤ k ∧ k < 2 ^ 62)
    (hj : (if k < 0 then k + l.length else k) = (j : Int)) (hx : l[j]? = some c)
    (hs : subscripted slice false (.str (S l) t) (.int k u) = operate [.str (S l) t, .int k u] (getItem (.str (S l) t) (.int k u))) (h : ∀ t s', FS G own s₀ env ns vs cns cvs led s' → Q (.str (S [c]) t) s') :
    wpAny (model prog w) A (subscriptTail value slice (.str (S l) t) (.int k u)) Q E s := by
  have hlt : j < l.length := (List.getElem?_eq_some_iff.mp hx).1
  have e : Txt.item (S l) k = S [c] := by
    have e1 : seqIndex? k (S l).length = some j := by
      unfold seqIndex?
      rw [S_len]
      have h1 : (decide (0 ≤ (if k < 0 then k + (l.length : Int) else k)) && decide ((if k < 0 then k + (l.length : Int) else k) < l.length)) = true := by
        rw [hj]; simp; omega
      simp only [h1, if_true, hj]
      simp [hlt]
    unfold Txt.item Txt.charAt
    rw [e1]
    have : (S l).cps[j]? = some c := by simpa [S] using hx
    simp only [Option.bind_some, this]
    rfl
  refine item_str ?_ ?_ ?_ ?_ hs (fun r => by cases value <;> rfl)
  · unfold fitsSsize
    simp; omega
  · rw [S_len]; split at hj <;> omega
  · rw [S_len]; split at hj <;> omega
  · intro _; rw [e]; exact h _ _ (H.keeps (keeps_tok _ _))
end
end Mine
namespace Mine
section
variable {G : Heap → Prop} {own : Bool} {s₀ : Shared} {env : Env} {ns cns : List Str} {vs cvs : List (Option Value)} {led : Led} {s : Shared}
variable {prog : Program} {w : World} {A : Around} {E : Value → Shared → Prop}

theorem fdivI (H : FS G own s₀ env ns vs cns cvs led s) {a b : Int} {t u : Tok} {Q : Value → Shared → Prop} (hb : b ≠ 0) (hb' : b.natAbs < 1073741824) (h : ∀ t s', FS G own s₀ env ns vs cns cvs led s' → Q (.int (a.fdiv b) t) s') :
    wpAny (model prog w) A (binaryOp .FloorDiv (.int a t) (.int b u)) Q E s := floordiv_int hb (h _ _ (H.keeps (keeps_tok _ _))) (Or.inl (PyProof.noPylong_small hb'))

/-- a new list -/
theorem newL (H : FS G own s₀ env ns vs cns cvs led s) {xs : List Value} {Q : Value → Shared → Prop} (hsz : xs.length ≤ sizeLine) (h : ∀ b s', FS G own s₀ env ns vs cns cvs ((b, PlO xs) :: led) s' → Q (.ref b) s') :
    wpAny (model prog w) A (newList xs) Q E s := by
  refine wpAny_newObj_type ?_ (by show xs.toArray.size ≤ sizeLine; simpa using hsz)
  exact h _ _ (H.new (keeps_push _ _ _) (fresh_size _) ⟨_, Heap.get?_push_size _ rfl, 0, rfl⟩)

theorem foldl_rep (xs : Array Value) : ∀ (n : Nat) (acc : Array Value), (List.foldl (fun x1 x2 => x1 ++ x2) acc (List.replicate n xs)).toList = acc.toList ++ (List.replicate n xs.toList).flatten
  | 0, acc => by simp
  | n + 1, acc => by simp [List.replicate_succ, foldl_rep xs n, List.append_assoc]

theorem mulL (H : FS G own s₀ env ns vs cns cvs led s) {a : Addr} {v : Value} {x : Int} {u : Tok} {Q : Value → Shared → Prop} (hm : (a, PlO [v]) ∈ led) (hx : -(2 ^ 62) ≤ x ∧ x ≤ 2 ^ 20)
    (h : ∀ b s', FS G own s₀ env ns vs cns cvs ((b, PlO (List.replicate x.toNat v)) :: led) s' → Q (.ref b) s') :
    wpAny (model prog w) A (binaryOp .Mult (.ref a) (.int x u)) Q E s := by
  obtain ⟨⟨o, ho, n, rfl⟩, _⟩ := H.has _ hm
  simp only at ho
  have hsz : #[v].size * x.toNat ≤ 2 ^ 24 := by simp; omega
  refine wpAny_binaryOp_repeat_ref (T := "list") (U := "int") (by decide) ⟨_, ho, rfl⟩ (fun s' => typeIs_int s' x u) noFill_list_mul PySem.F.fills_int_mul PySem.F.slot_int_rmul repeat_list PySem.F.slot_int_index.lookup
    (call_meets PySem.F.slot_int_rmul (typeIs_int s x u) PySem.F.entry_int_rmul (PySem.F.args_int_rmul_2 _ _) (int___rmul___int_list x u a [v].toArray n)
      ⟨ho, rfl, ⟨_, ho, rfl⟩, call_meets PySem.F.slot_list_mul ⟨_, ho, rfl⟩ PySem.F.entry_list_mul (PySem.F.args_list_mul_2 _ _)
        (AutoListH.list___mul___list_int_3 a [v].toArray n x u (by simp [Builtin.List.listFitsIndex]; omega) (by simp; omega) (by simp [Builtin.List.listTooLong, sizeLine]; omega))
        ⟨ho, ?_⟩⟩)
  refine h _ _ (H.new (keeps_push _ _ _) (fresh_size _) ⟨_, Heap.get?_push_size _ rfl, 0, ?_⟩)
  congr 2
  apply Array.toList_inj.mp
  rw [foldl_rep]
  simp
theorem lenL (H : FS G own s₀ env ns vs cns cvs led s) {a : Addr} {xs : List Value} {Q : Value → Shared → Prop} (hl : s.heap.IsList a xs.toArray) (hsz : xs.length ≤ sizeLine)
    (h : ∀ t s', FS G own s₀ env ns vs cns cvs led s' → Q (.int xs.length t) s') : wpAny (model prog w) A (call (.builtin "len") [.ref a]) Q E s := by
  refine len_list hl ?_ ?_
  · rw [sizeLine_eq] at hsz; simp; omega
  · simpa using h _ _ (H.keeps (keeps_tok _ _))
theorem lenS (H : FS G own s₀ env ns vs cns cvs led s) {l : List Nat} {t : Tok} {Q : Value → Shared → Prop} (hsz : l.length ≤ sizeLine) (h : ∀ t s', FS G own s₀ env ns vs cns cvs led s' → Q (.int l.length t) s') :
    wpAny (model prog w) A (call (.builtin "len") [.str (S l) t]) Q E s := by
  refine PyProof.Rows.len_str ?_ ?_
  · rw [S_len]; rw [sizeLine_eq] at hsz; omega
  · rw [S_len]; exact h _ _ (H.keeps (keeps_tok _ _))
theorem truS (H : FS G own s₀ env ns vs cns cvs led s) {l : List Nat} {t : Tok} {Q : Bool → Shared → Prop} (hsz : l.length ≤ sizeLine) (h : ∀ s', FS G own s₀ env ns vs cns cvs led s' → Q (!l.isEmpty) s') :
    wpAny (model prog w) A (truthy (.str (S l) t)) Q E s := by
  refine P.truthy_str ?_ ?_
  · rw [S_len]; rw [sizeLine_eq] at hsz; omega
  · rw [S_len]
    have e : ((l.length : Int) != 0) = !l.isEmpty := by cases l <;> simp <;> omega
    rw [e]; exact h _ (H.keeps (keeps_tok _ _))
theorem truI {a : Int} {t : Tok} {Q : Bool → Shared → Prop} (h : Q (a != 0) s) : wpAny (model prog w) A (truthy (.int a t)) Q E s := P.truthy_int h
theorem truB {b : Bool} {Q : Bool → Shared → Prop} (h : Q b s) : wpAny (model prog w) A (truthy (.bool b)) Q E s := wpAny_truthy_bool h
theorem min2 (H : FS G own s₀ env ns vs cns cvs led s) {a b : Int} {t u : Tok} {Q : Value → Shared → Prop} (hh : A.handled = none) (h : ∀ t s', FS G own s₀ env ns vs cns cvs led s' → Q (.int (min a b) t) s') :
    wpAny (model prog w) A (call (.builtin "min") [.int a t, .int b u]) Q E s := by
  refine min_two_ints hh fun h' tk k => ?_
  split
  · rw [show b = min a b by omega]; exact h _ _ (H.keeps (keeps_of k))
  · rw [show a = min a b by omega]; exact h _ _ (H.keeps (keeps_of k))
theorem max2 (H : FS G own s₀ env ns vs cns cvs led s) {a b : Int} {t u : Tok} {Q : Value → Shared → Prop} (hh : A.handled = none) (h : ∀ t s', FS G own s₀ env ns vs cns cvs led s' → Q (.int (max a b) t) s') :
    wpAny (model prog w) A (call (.builtin "max") [.int a t, .int b u]) Q E s := by
  refine max_two_ints hh fun h' tk k => ?_
  split
  · rw [show b = max a b by omega]; exact h _ _ (H.keeps (keeps_of k))
  · rw [show a = max a b by omega]; exact h _ _ (H.keeps (keeps_of k))
theorem max3 (H : FS G own s₀ env ns vs cns cvs led s) {a b c : Int} {t u x : Tok} {Q : Value → Shared → Prop} (hh : A.handled = none) (h : ∀ t s', FS G own s₀ env ns vs cns cvs led s' → Q (.int (max (max a b) c) t) s') :
    wpAny (model prog w) A (call (.builtin "max") [.int a t, .int b u, .int c x]) Q E s := by
  refine max_three_ints hh fun h' tk k => ?_
  split
  · split
    · rw [show c = max (max a b) c by omega]; exact h _ _ (H.keeps (keeps_of k))
    · rw [show b = max (max a b) c by omega]; exact h _ _ (H.keeps (keeps_of k))
  · split
    · rw [show c = max (max a b) c by omega]; exact h _ _ (H.keeps (keeps_of k))
    · rw [show a = max (max a b) c by omega]; exact h _ _ (H.keeps (keeps_of k))
theorem absI (H : FS G own s₀ env ns vs cns cvs led s) {a : Int} {t : Tok} {Q : Value → Shared → Prop} (h : ∀ t s', FS G own s₀ env ns vs cns cvs led s' → Q (.int (a.natAbs) t) s') :
    wpAny (model prog w) A (call (.builtin "abs") [.int a t]) Q E s := by
  refine call_abs_int fun u tk => ?_
  rw [show (if a < 0 then -a else a) = (a.natAbs : Int) by split <;> omega]
  exact h _ _ (H.keeps (keeps_tok _ _))
theorem isBool (H : FS G own s₀ env ns vs cns cvs led s) {a : Int} {t : Tok} {Q : Value → Shared → Prop} (h : ∀ s', FS G own s₀ env ns vs cns cvs led s' → Q (.bool false) s') :
    wpAny (model prog w) A (call (.builtin "isinstance") [.int a t, .type "bool"]) Q E s := IsiPair.int_bool (h _ (H.keeps (keeps_tok _ _)))

/-- compare -/
theorem eqS {a b : List Nat} {t u : Tok} {Q : Value → Shared → Prop} (h : Q (.bool (decide (a = b))) s) : wpAny (model prog w) A (compareOp .Eq (.str (S a) t) (.str (S b) u)) Q E s :=
  PyProof.Rows.eq_str (by rw [S_beq]; exact h)
theorem eqI {a b : Int} {t u : Tok} {Q : Value → Shared → Prop} (h : Q (.bool (decide (a = b))) s) : wpAny (model prog w) A (compareOp .Eq (.int a t) (.int b u)) Q E s :=
  PyProof.Rows.eq_int (by rw [show (a == b) = decide (a = b) from by by_cases e : a = b <;> simp [e]]; exact h)
theorem neI {a b : Int} {t u : Tok} {Q : Value → Shared → Prop} (h : Q (.bool (!decide (a = b))) s) : wpAny (model prog w) A (compareOp .NotEq (.int a t) (.int b u)) Q E s :=
  PyProof.Rows.ne_int (by rw [show (a != b) = !decide (a = b) from by by_cases e : a = b <;> simp [e]]; exact h)
theorem ltI {a b : Int} {t u : Tok} {Q : Value → Shared → Prop} (h : Q (.bool (decide (a < b))) s) : wpAny (model prog w) A (compareOp .Lt (.int a t) (.int b u)) Q E s := PyProof.Rows.lt_int h
theorem gtI {a b : Int} {t u : Tok} {Q : Value → Shared → Prop} (h : Q (.bool (decide (b < a))) s) : wpAny (model prog w) A (compareOp .Gt (.int a t) (.int b u)) Q E s := PyProof.Rows.gt_int h
theorem leI {a b : Int} {t u : Tok} {Q : Value → Shared → Prop} (h : Q (.bool (decide (a ≤ b))) s) : wpAny (model prog w) A (compareOp .LtE (.int a t) (.int b u)) Q E s := PyProof.Rows.le_int h

/-- lists changed -/
theorem setL (H : FS G true s₀ env ns vs cns cvs led s) {i : Nat} {a : Addr} {P : Obj → Prop} {xs : List Value} {k : Int} {t : Tok} {v : Value} {Q : Unit → Shared → Prop} (hi : led[i]? = some (a, P)) (hP : ∀ o, P o → LstO xs o)
    (h0 : 0 ≤ k) (h1 : k < 2 ^ 63) (hn : k < xs.length) (h : ∀ s', FS G true s₀ env ns vs cns cvs (led.set i (a, LstO (xs.set k.toNat v))) s' → Q () s') :
    wpAny (model prog w) A (setItem (.ref a) (.int k t) v) Q E s := by
  have hl : s.heap.IsList a xs.toArray := by
    obtain ⟨⟨o, ho, hq⟩, _⟩ := H.has _ (List.mem_of_getElem? hi)
    exact ⟨o, ho, (hP o hq).1, (hP o hq).2⟩
  refine wpAny_setItem_list hl h0 h1 (by simpa using hn) fun h' hl' hs => h _ (H.setAt hi (fun b o hb e => (hs.2 b hb).trans e) ?_)
  obtain ⟨o, ho, hc, n, hd⟩ := hl'
  refine ⟨o, ho, hc, n, ?_⟩
  rw [hd]; simp
theorem gmJoin {x : Str} {t : Tok} {pl : Sem Bool} {Q : Value × List Value → Shared → Prop} (h : Q (.builtin "str.join", [.str x t]) s) : wpAny (model prog w) A (getMethod (.str x t) (Str.ofString "join") pl) Q E s := GM.join h
theorem gmLower {x : Str} {t : Tok} {pl : Sem Bool} {Q : Value × List Value → Shared → Prop} (h : Q (.builtin "str.lower", [.str x t]) s) : wpAny (model prog w) A (getMethod (.str x t) (Str.ofString "lower") pl) Q E s := GM.lower h
theorem lowS (H : FS G own s₀ env ns vs cns cvs led s) {x y : Str} {t : Tok} {Q : Value → Shared → Prop} (hx : x.length ≤ 5592405) (hy : Txt.lower x = y) (h : ∀ t s', FS G own s₀ env ns vs cns cvs led s' → Q (.str y t) s') :
    wpAny (model prog w) A (call (.builtin "str.lower") [.str x t]) Q E s := by
  subst hy
  exact SCL.lower hx fun _ => h _ _ (H.keeps (keeps_tok _ _))

/-- ranges -/
theorem rng1 (H : FS G own s₀ env ns vs cns cvs led s) {n : Int} {t : Tok} {Q : Value → Shared → Prop} (h : ∀ r t u v s', FS G own s₀ env ns vs cns cvs led s' → IsRange s'.heap r 0 n 1 t u v → Q (.ref r) s') :
    wpAny (model prog w) A (call (.type "range") [.int n t]) Q E s := call_range_1 (h _ _ _ _ _ (H.keeps (keeps_push _ _ _)) (IsRange.new ..))
theorem rng2 (H : FS G own s₀ env ns vs cns cvs led s) {a b : Int} {t u : Tok} {Q : Value → Shared → Prop} (h : ∀ r t u v s', FS G own s₀ env ns vs cns cvs led s' → IsRange s'.heap r a b 1 t u v → Q (.ref r) s') :
    wpAny (model prog w) A (call (.type "range") [.int a t, .int b u]) Q E s := call_range_2 (h _ _ _ _ _ (H.keeps (keeps_push _ _ _)) (IsRange.new ..))
theorem rng3 (H : FS G own s₀ env ns vs cns cvs led s) {a b c : Int} {t u v : Tok} {Q : Value → Shared → Prop} (hc : c ≠ 0) (hc' : c.natAbs < 1073741824) (h : ∀ r t u v s', FS G own s₀ env ns vs cns cvs led s' → IsRange s'.heap r a b c t u v → Q (.ref r) s') :
    wpAny (model prog w) A (call (.type "range") [.int a t, .int b u, .int c v]) Q E s := call_range_3 hc (h _ _ _ _ _ (H.keeps (keeps_push _ _ _)) (IsRange.new ..)) (Or.inl (PyProof.noPylong_small hc'))
end
end Mine
namespace Mine
section
variable {G : Heap → Prop} {own : Bool} {s₀ : Shared} {env : Env} {nk : List (Str × NameKind)} {ns cns : List Str} {vs cvs : List (Option Value)} {led : Led} {s : Shared}
variable {prog : Program} {w : World} {A : Around} {E : Value → Shared → Prop}

theorem FS.perm (H : FS G own s₀ env ns vs cns cvs led s) {led' : Led} (hp : led.Perm led') : FS G own s₀ env ns vs cns cvs led' s :=
  { H with
    cells := fun x o a => let ⟨c, h1, h2, h3, h4, h5⟩ := H.cells x o a; ⟨c, h1, h2, h3, h4, fun p hq => h5 p (hp.mem_iff.mpr hq)⟩
    has := fun p hq => H.has p (hp.mem_iff.mpr hq)
    apart := (hp.pairwise_iff (fun h => Ne.symm h)).mp H.apart }

theorem FS.setMid {l1 l2 : Led} {a : Addr} {P P' : Obj → Prop} {h' : Heap} {n : Nat} (H : FS G own s₀ env ns vs cns cvs (l1 ++ (a, P) :: l2) s) (hs : ∀ b o, b ≠ a → s.heap.get? b = some o → h'.get? b = some o)
    (hp : ∃ o, h'.get? a = some o ∧ P' o) : FS G own s₀ env ns vs cns cvs (l1 ++ (a, P') :: l2) { s with heap := h', toks := n } := by
  have := H.setAt (i := l1.length) (a := a) (P := P) (P' := P') (n := n) (by simp) hs hp
  simpa using this

theorem FS.dropMid {l1 l2 : Led} {a : Addr} {P : Obj → Prop} {h' : Heap} {n : Nat} (H : FS G own s₀ env ns vs cns cvs (l1 ++ (a, P) :: l2) s) (hs : ∀ b o, b ≠ a → s.heap.get? b = some o → h'.get? b = some o) :
    FS G own s₀ env ns vs cns cvs (l1 ++ l2) { s with heap := h', toks := n } := by
  obtain ⟨_, haL, ha0⟩ := H.has (a, P) (by simp)
  obtain ⟨h1, tk1, hs1⟩ := H.same
  have hsub : (l1 ++ l2).Sublist (l1 ++ (a, P) :: l2) := List.Sublist.append (List.Sublist.refl _) (List.sublist_cons_self _ _)
  have hpa : ∀ p ∈ l1 ++ l2, p.1 ≠ a := by
    intro p hp
    have hap := List.pairwise_append.mp H.apart
    rcases List.mem_append.mp hp with hp | hp
    · exact hap.2.2 p hp (a, P) List.mem_cons_self
    · exact Ne.symm ((List.pairwise_cons.mp hap.2.1).1 p hp)
  refine ⟨⟨h', n, by rw [hs1]⟩, fun b o e => hs b o (by rintro rfl; simp only at ha0; rw [ha0] at e; cases e) (H.keep b o e), H.g, H.nd, H.cnd, ?_, ?_, H.inj, ?_, H.apart.sublist hsub, H.fresh⟩
  · obtain ⟨m, hm', hv⟩ := H.vars
    exact ⟨m, hm'.at' fun o e => hs _ o (Ne.symm haL) e, hv⟩
  · intro x o b
    obtain ⟨c, h1, h2, h3, h4, h5⟩ := H.cells x o b
    have hca : c ≠ a := fun e => h5 (a, P) (by simp) e.symm
    exact ⟨c, h1, (let ⟨oc, e1, e2⟩ := h2; ⟨oc, hs _ _ hca e1, e2⟩), h3, h4, fun p hp => h5 p (hsub.mem hp)⟩
  · intro p hp
    obtain ⟨⟨o, ho, hq⟩, r⟩ := H.has p (hsub.mem hp)
    exact ⟨⟨o, hs _ _ (hpa p hp) ho, hq⟩, r⟩

/-- a range's iterator -/
def RIt (x left step : Int) : Obj → Prop := fun o => o = ({ cls := .type "range_iterator", dict := none, data := .fields #[rawInt x, rawInt left, rawInt step], slots := #[] } : Obj)
/-- a list's iterator -/
def LIt (l : Addr) (i : Nat) : Obj → Prop := fun o => o.cls = .type "list_iterator" ∧ o.data = .fields #[.ref l, .int i 0]

abbrev Inv := Nat → List (Option Value) → List (Option Value) → Led → Prop

/-- a loop over a range -/
theorem forR {x : Str} {px : Pos} {body : List Stmt} {Q : Flow → Shared → Prop} {hid : Led} (hE : EnvIs env nk) (hx : nk.lookup x = some .local) (hh : A.handled = none) {r : Addr} {a b c : Int} {t u v : Tok}
    (H : FS G true s₀ env ns vs cns cvs (led ++ hid) s) (hr : IsRange s.heap r a b c t u v) (hsm : Builtin.Range.small a b c = true) (n : Nat) (hn : Builtin.Range.rangeSize a b c = n)
    (J : Inv) (h0 : J 0 vs cvs led)
    (turn : ∀ i t vs₁ cvs₁ led₁, i < n → J i vs₁ cvs₁ led₁ → ∃ vs₂, Put ns vs₁ x (.int (a + (i : Int) * c) t) vs₂ ∧ ∀ hid' s₂, FS G true s₀ env ns vs₂ cns cvs₁ (led₁ ++ hid') s₂ →
      wpAny (model prog w) A (execs body env) (fun f s₃ => match f with
        | .next => ∃ vs₃ cvs₃ led₃, J (i + 1) vs₃ cvs₃ led₃ ∧ FS G true s₀ env ns vs₃ cns cvs₃ (led₃ ++ hid') s₃
        | .ret v => Q (.ret v) s₃
        | _ => False) (fun _ _ => False) s₂)
    (hQ : ∀ vs' cvs' led' s', J n vs' cvs' led' → FS G true s₀ env ns vs' cns cvs' (led' ++ hid) s' → Q .next s') :
    wpAny (model prog w) A (pyIter (.ref r)) (fun it s₂ => codeAny (model prog w) A (.forLoop (.Name x px) it body [] env) (fun r s' => match r with | .ok f => Q f s' | .error e => cameBackBy (model prog w) A env E e s') s₂) E s := by
  refine wpAny_pyIter_range hr hsm ?_
  rw [hn]
  have W := Walks.range (prog := prog) (w := w) (A := A) hh s.heap.objs.size a c n
  have H1 := (H.new (a := s.heap.objs.size) (P := RIt a n c) (keeps_push s { cls := .type "range_iterator", data := .fields #[rawInt a, rawInt n, rawInt c] } s.toks) (fresh_size _) ⟨_, Heap.get?_push_size _ rfl, rfl⟩).perm (List.perm_middle.symm)
  generalize hI : s.heap.objs.size = I at H1 W ⊢
  refine codeAny_forLoop (fun k s' => ∃ i vs' cvs' led', i ≤ n ∧ k = n + 1 - i ∧ J i vs' cvs' led' ∧ FS G true s₀ env ns vs' cns cvs' (led' ++ (I, RIt (a + (i : Int) * c) ((n : Int) - (i : Int)) c) :: hid) s') ?_ (n + 1)
    ⟨0, vs, cvs, led, Nat.zero_le _, rfl, h0, by simpa using H1⟩
  rintro k s' ⟨i, vs', cvs', led', hi, rfl, hJ, H'⟩
  have hit : IsRangeIter s'.heap I (a + (i : Int) * c) ((n : Int) - (i : Int)) c := by
    obtain ⟨⟨o, ho, e⟩, _⟩ := H'.has (I, RIt (a + (i : Int) * c) ((n : Int) - (i : Int)) c) (by simp)
    unfold RIt at e
    rw [e] at ho; exact ho
  by_cases hlt : i < n
  · refine W.item i s' _ _ hlt hit fun v h' tk hv hst hk => ?_
    obtain ⟨t, rfl⟩ := hv
    have H2 := H'.setMid (h' := h') (n := tk) (P' := RIt (a + ((i + 1 : Nat) : Int) * c) ((n : Int) - ((i + 1 : Nat) : Int)) c) (fun b o hb e => hk b o (by simpa using hb) e) ⟨_, hst, rfl⟩
    obtain ⟨vs₂, hp, hb⟩ := turn i t vs' cvs' led' hlt hJ
    refine wpAny_assign_Name (stL H2 hE hp hx fun s₂ H3 => ?_)
    refine wpAny_mono (hb _ s₂ H3) (fun f s₃ h₃ => ?_) fun _ _ f => f.elim
    cases f with
    | next =>
      obtain ⟨vs₃, cvs₃, led₃, hJ₃, H4⟩ := h₃
      exact ⟨n + 1 - (i + 1), by omega, i + 1, vs₃, cvs₃, led₃, hlt, rfl, hJ₃, H4⟩
    | ret v => exact h₃
    | brk => exact h₃.elim
    | cont => exact h₃.elim
  · have hin : i = n := by omega
    subst hin
    refine W.done s' _ _ hit fun h' tk hk => wpAny_execs_nil ?_
    exact hQ vs' cvs' led' _ hJ (H'.dropMid fun b o hb e => hk b o (by simpa using hb) e)

/-- a while -/
theorem whileJ {test : Expr} {body : List Stmt} {pos : Pos} {Q : Flow → Shared → Prop} (H : FS G true s₀ env ns vs cns cvs led s) (J : Inv) (n : Nat) (h0 : J n vs cvs led)
    (turn : ∀ k vs₁ cvs₁ led₁ s₁, J k vs₁ cvs₁ led₁ → FS G true s₀ env ns vs₁ cns cvs₁ led₁ s₁ →
      wpAny (model prog w) A (isTrue test env (eval test env)) (fun b s₂ => if b then wpAny (model prog w) A (execs body env) (fun f s₃ => match f with
        | .next => ∃ m, m < k ∧ ∃ vs₃ cvs₃ led₃, J m vs₃ cvs₃ led₃ ∧ FS G true s₀ env ns vs₃ cns cvs₃ led₃ s₃
        | .ret v => Q (.ret v) s₃
        | _ => False) (fun _ _ => False) s₂ else Q .next s₂) (fun _ _ => False) s₁) :
    wpAny (model prog w) A (exec (.While test body [] pos) env) Q E s := by
  refine wpAny_While (codeAny_whileLoop (fun k s' => ∃ vs' cvs' led', J k vs' cvs' led' ∧ FS G true s₀ env ns vs' cns cvs' led' s') ?_ n ⟨vs, cvs, led, h0, H⟩)
  rintro k s' ⟨vs', cvs', led', hJ, H'⟩
  refine wpAny_mono (turn k vs' cvs' led' s' hJ H') (fun b s₂ h₂ => ?_) fun _ _ f => f.elim
  cases b with
  | true =>
    simp only [if_true] at h₂ ⊢
    refine wpAny_mono h₂ (fun f s₃ h₃ => ?_) fun _ _ f => f.elim
    cases f with
    | next =>
      obtain ⟨m, hm, vs₃, cvs₃, led₃, hJ₃, H4⟩ := h₃
      exact ⟨m, hm, vs₃, cvs₃, led₃, hJ₃, H4⟩
    | ret v => exact h₃
    | brk => exact h₃.elim
    | cont => exact h₃.elim
  | false =>
    simp only [Bool.false_eq_true, if_false] at h₂ ⊢
    exact wpAny_execs_nil h₂
end
end Mine
namespace Mine

/-- the names of a comprehension in a frame -/
def compNames (scope : Scope) (nk : List (Str × NameKind)) : List (Str × NameKind) :=
  scope.names.map fun (n, k) => if (k == .free && nk.lookup n == some .cell) then (n, .cell) else (n, k)

section
variable {G : Heap → Prop} {own : Bool} {s₀ : Shared} {env : Env} {nk : List (Str × NameKind)} {ns cns : List Str} {vs cvs : List (Option Value)} {led : Led} {s : Shared}
variable {prog : Program} {w : World} {A : Around} {E : Value → Shared → Prop}

theorem compEnv_is (hE : EnvIs env nk) {scope : Scope} (hk : scope.kind = .function) (cl : List (Str × Addr)) (C : Addr) (hd : (compNames scope nk).lookup (Str.ofString "__debug__") = none) :
    EnvIs (compEnvC scope cl C env) (compNames scope nk) := by
  refine ⟨?_, hk, hE.glob, hE.bi, hd⟩
  show (relabel scope env).names = compNames scope nk
  unfold relabel compNames
  simp only [hE.kind]
  refine List.map_congr_left fun x _ => ?_
  obtain ⟨n, k⟩ := x
  simp only [Env.kindOf, hE.names, beq_self_eq_true, Bool.and_true]

theorem paired_get {F : Value → Value → Prop} : ∀ {l₁ l₂ : List Value}, Paired F l₁ l₂ → ∀ (j : Nat) (v : Value), l₁[j]? = some v → ∃ y, l₂[j]? = some y ∧ F v y
  | _, _, .nil, _, _, h => by simp at h
  | _, _, .cons hf _, 0, v, h => by simp at h; subst h; exact ⟨_, rfl, hf⟩
  | _, _, .cons _ t, j + 1, v, h => by simpa using paired_get t j v (by simpa using h)

/-- what a comprehension does behind its source -/
def CompGo (prog : Program) (w : World) (A : Around) (E : Value → Shared → Prop) (env : Env) (scope : Scope) (cl : List (Str × Addr)) (x : Str) (elt : Expr) (F : Value → Value → Prop) (Q : Value → Shared → Prop) (xv : Value) (s₁ : Shared) : Prop :=
  wpAny (model prog w) A (pyIter xv) (fun it s₂ => ∃ I fp wr n P St, it = .ref I ∧ Walks prog w A I fp wr n P St ∧ n ≤ sizeLine ∧ St 0 s₂.heap ∧ (∀ b ∈ fp, b < s₂.heap.objs.size) ∧
      QuietOnC prog w A env scope cl x [] elt wr P (fun _ => true) F s₂ ∧
      (∀ D h' tk ys (vs : List Value), s₂.heap.get? D = none → h'.IsList D ys → h'.PlainList D ys → vs.length = n → (∀ j v, vs[j]? = some v → P j v) → Paired F (vs.filter fun _ => true) ys.toList →
        (∀ b o, b ∉ wr → s₂.heap.get? b = some o → h'.get? b = some o) → Q (.ref D) { s₂ with heap := h', toks := tk })) E s₁

theorem evComp {elt iter : Expr} {x : Str} {px : Pos} {scope : Scope} {cl : List (Str × Addr)} {pos : Pos} {Q : Value → Shared → Prop} (F : Value → Value → Prop)
    (hclos : closureFor scope env = pure cl) (hcell : ∀ y ∈ scope.names, y.2 ≠ .cell) (hkind : scope.kind = .function)
    (hnames : ∀ y ∈ scope.names, y.2 = .local → scope.names.lookup y.1 = some .local) (hx : scope.names.lookup x = some .local)
    (h : wpAny (model prog w) A (eval iter env) (CompGo prog w A E env scope cl x elt F Q) E s) (hs : ∀ x, foldedSetIterable iter env x = pure x := by intro _; rfl) :
    wpAny (model prog w) A (eval (.ListComp elt [⟨.Name x px, iter, [], 0⟩] scope pos) env) Q E s :=
  wpAny_ListComp_free (fun _ => true) F hclos hcell hkind hnames hx h hs

/-- the frame of a comprehension's element -/
theorem compFS (SG : Stable G) {scope : Scope} {cl : List (Str × Addr)} {C : Addr} {x : Str} {v : Value} {m₃ : Str → Option Value} {s₁ s₃ : Shared} {ccns : List Str} {ccvs : List (Option Value)}
    (hg : G s₁.heap) (hk : ∀ b o, s₁.heap.get? b = some o → s₃.heap.get? b = some o) (hC : s₁.heap.get? C = none) (hn : s₃.heap.Ns C m₃) (hm : m₃ x = some v)
    (hcnd : ccns.Nodup) (hcells : ∀ y o, AtO ccns ccvs y o → ∃ c, cl.lookup y = some c ∧ s₁.heap.IsCell c o) (hinj : ∀ x y c, cl.lookup x = some c → cl.lookup y = some c → x = y) :
    FS G false s₃ (compEnvC scope cl C env) [x] [some v] ccns ccvs [] s₃ := by
  refine ⟨⟨s₃.heap, s₃.toks, rfl⟩, fun _ _ e => e, SG.up _ _ hg hk, by simp, hcnd, ⟨m₃, hn, fun y u a => ?_⟩, fun y o a => ?_, hinj, fun p hp => (nomatch hp), List.Pairwise.nil, fun e => (nomatch e)⟩
  · cases a with
    | head => exact hm
    | tail a => cases a
  · obtain ⟨c, h1, h2⟩ := hcells y o a
    refine ⟨c, h1, h2.keeps hk, fun e => (nomatch e), ?_, fun p hp => (nomatch hp)⟩
    rintro rfl
    obtain ⟨o, ho, _⟩ := h2
    have : s₁.heap.get? c = none := hC
    rw [this] at ho; cases ho

theorem walks_bounded {prog : Program} {w : World} {A : Around} {I : Addr} {fp wr : List Addr} {n : Nat} {P : Nat → Value → Prop} {Si : Nat → Heap → Prop} (W : Walks prog w A I fp wr n P Si) :
    Walks prog w A I fp wr n (fun i v => i < n ∧ P i v) Si where
  sub := W.sub
  frame := W.frame
  item := fun i s Q E hi st hQ => W.item i s Q E hi st fun v h' tk hP => hQ v h' tk ⟨hi, hP⟩
  done := W.done
  self := W.self

theorem compGoL (SG : Stable G) (hh : A.handled = none) {scope : Scope} {cl : List (Str × Addr)} {x : Str} {elt : Expr} {F : Value → Value → Prop} {Q : Value → Shared → Prop} {l : Addr} {xs : List Value}
    (H : FS G own s₀ env ns vs cns cvs led s) (hl : s.heap.IsList l xs.toArray) (hsz : xs.length ≤ sizeLine)
    (ccns : List Str) (ccvs : List (Option Value)) (hcnd : ccns.Nodup) (hcells : ∀ y o, AtO ccns ccvs y o → ∃ c, cl.lookup y = some c ∧ s.heap.IsCell c o) (hinj : ∀ x y c, cl.lookup x = some c → cl.lookup y = some c → x = y)
    (helt : ∀ C (i : Nat) v s₃ E', xs[i]? = some v → (∀ b o, s.heap.get? b = some o → s₃.heap.get? b = some o) → FS G false s₃ (compEnvC scope cl C env) [x] [some v] ccns ccvs [] s₃ →
      wpAny (model prog w) A (eval elt (compEnvC scope cl C env)) (fun y s₄ => F v y ∧ Keeps s₃ s₄) E' s₃)
    (hQ : ∀ D ys s', FS G own s₀ env ns vs cns cvs ((D, PlO ys) :: led) s' → Paired F xs ys → Q (.ref D) s') :
    CompGo prog w A E env scope cl x elt F Q (.ref l) s := by
  unfold CompGo
  refine wpAny_pyIter_list hl ?_
  have hIs : s.heap.get? s.heap.objs.size = none := fresh_size _
  have hlt : l < s.heap.objs.size := by obtain ⟨o, ho, _⟩ := hl; exact Heap.lt_size ho
  have W := Walks.list (prog := prog) (w := w) (A := A) hh s.heap.objs.size l (Nat.ne_of_lt hlt) xs.toArray
  have notw : ∀ b o, s.heap.get? b = some o → b ∉ [s.heap.objs.size] := fun b o e hb => by
    rw [List.mem_singleton] at hb; subst hb; rw [hIs] at e; cases e
  refine ⟨_, _, _, xs.toArray.size, _, _, rfl, W, by simpa using hsz, ⟨⟨_, Heap.get?_push_size _ rfl, rfl, rfl⟩, hl.push _⟩, ?_, ⟨?_, ?_⟩, ?_⟩
  · intro b hb
    rw [Heap.size_push]
    rcases List.mem_cons.mp hb with rfl | hb
    · exact Nat.lt_succ_self _
    · rw [List.mem_singleton] at hb; subst hb; exact Nat.lt_succ_of_lt hlt
  · intro C i v s₃ m₃ E' _ _ _ _ _ _
    exact wpAny_pure ⟨rfl, Keeps.refl' _⟩
  · intro C i v s₃ m₃ E' hC hP _ hn₃ hm hk _
    have hks : ∀ b o, s.heap.get? b = some o → s₃.heap.get? b = some o := fun b o e => hk b o (notw b o e) (Heap.get?_push_of_some _ e)
    refine helt C i v s₃ E' (by simpa using hP) hks (compFS SG (H.gg SG) hks ?_ hn₃ hm hcnd hcells hinj)
    exact Heap.get?_none_of_le (by rw [Heap.size_push] at hC; omega)
  · intro D h' tk ys vs' hD _ hpl hlen hP hF hk
    have hks : Keeps s { s with heap := h', toks := tk } := keeps_of fun b o e => hk b o (notw b o e) (Heap.get?_push_of_some _ e)
    have hD' : s.heap.get? D = none := by
      cases e : s.heap.get? D with
      | none => rfl
      | some o => rw [Heap.get?_push_of_some _ e] at hD; cases hD
    refine hQ D ys.toList _ (H.new hks hD' ?_) ?_
    · obtain ⟨n', e⟩ := hpl
      exact ⟨_, e, n', by simp⟩
    · rw [List.filter_eq_self.mpr (fun _ _ => rfl)] at hF
      have e : vs' = xs := by
        apply List.ext_getElem?
        intro j
        by_cases hj : j < vs'.length
        · have hv : vs'[j]? = some vs'[j] := List.getElem?_eq_getElem hj
          rw [hv]
          have := hP j _ hv
          simpa using this.symm
        · rw [List.getElem?_eq_none (by omega), List.getElem?_eq_none (by simp at hlen; omega)]
      exact e ▸ hF

theorem glued_S : ∀ (l : List (List Nat)), (Builtin.Str.glued (S []) (l.map S)) = S l.flatten := by
  have key : ∀ (l : List (List Nat)) (acc : Array Nat), (l.map S).foldl (fun acc p => acc ++ (S []).cps ++ p.cps) acc = acc ++ l.flatten.toArray := by
    intro l
    induction l with
    | nil => intro acc; simp
    | cons x r ih =>
      intro acc
      rw [List.map_cons, List.foldl_cons, ih]
      apply Array.toList_inj.mp
      simp [S]
  intro l
  unfold Builtin.Str.glued
  cases l with
  | nil => rfl
  | cons x r =>
    simp only [List.map_cons, List.drop_succ_cons, List.drop_zero, List.headD_cons]
    rw [key]
    simp [S]

/-- texts put together -/
theorem joinS (H : FS G own s₀ env ns vs cns cvs led s) {a : Addr} {l : List (List Nat × Tok)} {t : Tok} {Q : Value → Shared → Prop} (hl : s.heap.IsList a (l.map fun p => Value.str (S p.1) p.2).toArray)
    (hsz : ((l.map (·.1)).map List.length).sum ≤ sizeLine) (h : ∀ t s', FS G own s₀ env ns vs cns cvs led s' → Q (.str (S (l.map (·.1)).flatten) t) s') :
    wpAny (model prog w) A (call (.builtin "str.join") [.str (S []) t, .ref a]) Q E s := by
  have hl' : s.heap.IsList a (strValues (l.map fun p => (S p.1, p.2))).toArray := by
    simpa [strValues, Function.comp_def] using hl
  have e1 : ((l.map fun p => (S p.1, p.2)).map (·.1)) = (l.map (·.1)).map S := by simp [Function.comp_def]
  refine call_meets PySem.F.slot_str_join (typeIs_str _ _ _) PySem.F.entry_str_join (PySem.F.args_str_join_2 _ _) (meets_str_join_list (S []) t a (l.map fun p => (S p.1, p.2)) ?_) ⟨hl', ?_⟩
  · rw [e1]
    have key : ∀ (k : List (List Nat)) (n : Nat), (k.map S).toArray.foldl (fun x1 x2 => x1 + x2.length + (S []).length) n = n + (k.map List.length).sum := by
      intro k
      induction k with
      | nil => intro n; simp
      | cons x r ih =>
        intro n
        have := ih (n + (S x).length + (S []).length)
        simp only [List.foldl_toArray] at this ⊢
        rw [List.map_cons, List.foldl_cons, this, S_len, S_len, List.map_cons, List.sum_cons]
        simp; omega
    rw [key]
    unfold Builtin.Str.tooLong
    simpa using hsz
  · match l, hsz, h, hl' with
    | [], _, h, _ => 
      refine ⟨by rw [sizeLine_eq]; decide, ?_⟩
      have := h s.toks { s with toks := s.toks + 1 } (H.keeps (keeps_tok _ _))
      exact this
    | [p], _, h, _ =>
      have := h p.2 s H
      simp at this
      exact this
    | p :: q :: r, hsz, h, _ =>
      have e2 := glued_S ((p :: q :: r).map (·.1))
      show (Made.str (Builtin.Str.glued (S []) (((p :: q :: r).map fun p => (S p.1, p.2)).map (·.1)))).post _ s
      rw [show (((p :: q :: r).map fun p => (S p.1, p.2)).map (·.1)) = ((p :: q :: r).map (·.1)).map S by simp [Function.comp_def], e2]
      refine ⟨?_, ?_⟩
      · rw [S_len, List.length_flatten]; exact hsz
      · exact h s.toks { s with toks := s.toks + 1 } (H.keeps (keeps_tok _ _))
theorem listRange (H : FS G own s₀ env ns vs cns cvs led s) (hh : A.handled = none) {r : Addr} {a b c : Int} {t u v : Tok} {Q : Value → Shared → Prop} (hr : IsRange s.heap r a b c t u v) (hsm : Builtin.Range.small a b c = true) (n : Nat) (hn : Builtin.Range.rangeSize a b c = n) (hsz : n ≤ 2 ^ 24)
    (h : ∀ D ys s', FS G own s₀ env ns vs cns cvs ((D, PlO ys) :: led) s' → ys.length = n → (∀ (j : Nat), j < n → ∃ t, ys[j]? = some (.int (a + (j : Int) * c) t)) → Q (.ref D) s') :
    wpAny (model prog w) A (call (.type "list") [.ref r]) Q E s := by
  refine call_list_range hh hr hsm hn hsz fun h' tk acc c' hk ho hi => ?_
  refine h _ acc.toList _ (H.new (keeps_of hk) (fresh_size _) ⟨_, ho, c', by simp⟩) (by simpa using hi.1) fun j hj => ?_
  have hj' : j < acc.size := by rw [hi.1]; exact hj
  obtain ⟨t, e⟩ := hi.2 j acc[j] (by simp [hj'])
  exact ⟨t, by simp [hj', e]⟩
end
end Mine
namespace Mine
section
variable {G : Heap → Prop} {own : Bool} {s₀ : Shared} {env : Env} {nk : List (Str × NameKind)} {ns cns : List Str} {vs cvs : List (Option Value)} {led : Led} {s : Shared}
variable {prog : Program} {w : World} {A : Around} {E : Value → Shared → Prop}

/-- room for so many frames more -/
structure Room (A : Around) (d : Nat) : Prop where
  depth : A.depth + d < recursionLimit
  units : A.units + 8 * d + 100 < cLine
  handled : A.handled = none
theorem Room.deeper {A : Around} {d : Nat} (h : Room A (d + 1)) (env : Env) : Room (A.deeper env) d := by
  refine ⟨?_, ?_, h.handled⟩
  · have := h.depth; show A.depth + 1 + d < _; omega
  · have := h.units; show A.units + 3 + 8 * d + 100 < _; omega
theorem Room.less {A : Around} {d d' : Nat} (h : Room A d) (hd : d' ≤ d) : Room A d' := ⟨by have := h.depth; omega, by have := h.units; omega, h.handled⟩

/-- a call of a def -/
theorem enter {a : Addr} {o : Obj} {fd : FuncData} {body : List Stmt} {args : Args} {binds : List (Str × Value)} {R : Result → Shared → Prop}
    (ns : List Str) (vs : List (Option Value)) (cns : List Str) (cvs : List (Option Value)) {d : Nat} (hA : Room A d)
    (ho : s.heap.get? a = some o) (hdata : o.data = .func fd) (hg : G s.heap) (hlim : s.heap.NoLimit) (hcd : s.heap.CodeRec fd.code fd.qualname) (hbody : fd.body = .stmts body)
    (hbind : ∀ (Q' : List (Str × Value) → Shared → Prop) (E' : Value → Shared → Prop), Q' binds s → wpAny (model prog w) A.in1 (bindArgs fd args) Q' E' s)
    (hkind : ∀ x ∈ binds, fd.scope.names.lookup x.1 = some .local ∨ (fd.scope.names.lookup x.1 = some .cell ∧ ((cellsFrom (s.heap.objs.size + 1) fd.scope.names []).lookup x.1).isSome = true))
    (hv : ∀ x v, At ns vs x v → bindL (fun x => fd.scope.names.lookup x) binds (fun _ => none) x = some v)
    (hcv : ∀ x o, AtO cns cvs x o → ∃ c, (cellsFrom (s.heap.objs.size + 1) fd.scope.names []).lookup x = some c ∧ bindC (fun x => fd.scope.names.lookup x) binds (fun _ => none) x = o)
    (hnd : ns.Nodup) (hcnd : cns.Nodup) (hdbg : fd.scope.names.lookup (Str.ofString "__debug__") = none)
    (h : ∀ env s₁, EnvIs env fd.scope.names → FS G true s env ns vs cns cvs [] s₁ →
      wpAny (model prog w) (A.deeper env) (execs body env) (fun f s' => R (.ok (.ret (match f with | .ret v => v | _ => .none))) s') (fun _ _ => False) s₁)
    (hco : fd.scope.isCoroutine = false := by rfl) (hgen : fd.scope.isGenerator = false := by rfl) (hk : fd.scope.kind = .function := by rfl) (hclo : fd.closure = [] := by rfl)
    (hgl : fd.globals = mainGlobals := by rfl) (hbi : fd.builtins = builtinsNs := by rfl) :
    codeAny (model prog w) A (.call (.ref a) args) R s := by
  have hd := hA.depth
  refine codeAny_call_function (by omega) ho hdata hco hgen hbody hcd (hbind _ _ ?_)
  rw [hclo]
  refine wpAny_newFunctionEnv_cells hk hkind fun env he s' x => ⟨hlim.keeps x.toInCall.keep, ?_⟩
  have hloc : env.locals = s.heap.objs.size := by rw [he]; rfl
  have hcells : env.cells = cellsFrom (s.heap.objs.size + 1) fd.scope.names [] := by rw [he]; rfl
  have hkof : env.kindOf = (fun x => fd.scope.names.lookup x) := by rw [he]; rfl
  refine codeAny_func (wpAny_mono (h env s' ⟨by rw [he]; rfl, by rw [he]; exact hk, by rw [he]; exact hgl, by rw [he]; exact hbi, hdbg⟩ ?_) (fun _ _ q => q) fun _ _ f => f.elim)
  have hL0 : s.heap.get? env.locals = none := Heap.get?_none_of_le (by rw [hloc]; exact Nat.le_refl _)
  refine ⟨x.toInCall.same, x.toInCall.keep, hg, hnd, hcnd, ⟨_, x.toInCall.ns, fun y v a => by rw [hkof]; exact hv y v a⟩, fun y o a => ?_, fun y z c h1 h2 => ?_, fun p hp => (nomatch hp), List.Pairwise.nil, fun _ => hL0⟩
  · obtain ⟨c, h1, h2⟩ := hcv y o a
    rw [← hcells] at h1
    have hab := x.above y c (mem_of_lookup h1)
    refine ⟨c, h1, ?_, fun _ => Heap.get?_none_of_le ?_, Nat.ne_of_gt hab, fun p hp => (nomatch hp)⟩
    · have := x.cell y c h1
      rw [hkof, h2] at this; exact this
    · rw [hloc] at hab; exact Nat.le_of_lt hab
  · exact name_of_addr x.apart (mem_of_lookup h1) (mem_of_lookup h2)

theorem bindL_local {kindOf : Str → Option NameKind} : ∀ (binds : List (Str × Value)) (m : Str → Option Value), (∀ x ∈ binds, kindOf x.1 = some .local) → (binds.map (·.1)).Nodup →
    ∀ x v, ((x, v) ∈ binds → bindL kindOf binds m x = some v) ∧ (x ∉ binds.map (·.1) → bindL kindOf binds m x = m x)
  | [], m, _, _, x, v => ⟨fun h => (nomatch h), fun _ => rfl⟩
  | (n, u) :: r, m, hk, hnd, x, v => by
    have ih := bindL_local r (fun y => if y = n then some u else m y) (fun y hy => hk y (List.mem_cons_of_mem _ hy)) (List.nodup_cons.mp hnd).2 x v
    have e : bindL kindOf ((n, u) :: r) m = bindL kindOf r (fun y => if y = n then some u else m y) := by
      rw [bindL, if_pos (hk (n, u) List.mem_cons_self)]
    rw [e]
    refine ⟨fun h => ?_, fun h => ?_⟩
    · rcases List.mem_cons.mp h with h | h
      · cases h
        rw [ih.2 (List.nodup_cons.mp hnd).1]
        simp
      · exact ih.1 h
    · simp only [List.map_cons, List.mem_cons, not_or] at h
      rw [ih.2 h.2, if_neg h.1]
theorem bindC_local {kindOf : Str → Option NameKind} : ∀ (binds : List (Str × Value)) (m : Str → Option Value), (∀ x ∈ binds, kindOf x.1 = some .local) → bindC kindOf binds m = m
  | [], _, _ => rfl
  | (n, u) :: r, m, hk => by
    rw [bindC, if_pos (hk (n, u) List.mem_cons_self)]
    exact bindC_local r m fun y hy => hk y (List.mem_cons_of_mem _ hy)
theorem at_params : ∀ (ps : List Str) (vals : List Value) (rest : List Str), ps.length = vals.length → ∀ {x : Str} {v : Value}, At (ps ++ rest) (vals.map some ++ rest.map fun _ => none) x v → (x, v) ∈ ps.zip vals
  | [], [], rest, _, x, v, a => by
    exfalso
    simp only [List.nil_append, List.map_nil] at a
    induction rest with
    | nil => cases a
    | cons y r ih => cases a with | tail a => exact ih a
  | p :: ps, u :: us, rest, hl, x, v, a => by
    simp only [List.cons_append, List.map_cons] at a
    cases a with
    | head => exact List.mem_cons_self
    | tail a => exact List.mem_cons_of_mem _ (at_params ps us rest (by simpa using hl) a)
theorem atO_nones : ∀ (cns : List Str) {x : Str} {o : Option Value}, AtO cns (cns.map fun _ => none) x o → o = none
  | _ :: r, _, _, .head => rfl
  | _ :: r, _, _, .tail a => atO_nones r a
theorem lookup_of_mem_map : ∀ {l : List (Str × Addr)} {x : Str}, x ∈ l.map (·.1) → ∃ c, l.lookup x = some c
  | (n, c) :: r, x, h => by
    rw [List.lookup_cons]
    cases e : x == n with
    | true => exact ⟨c, rfl⟩
    | false =>
      rcases List.mem_cons.mp h with h | h
      · exfalso; simp only at h; subst h; simp at e
      · exact lookup_of_mem_map h

/-- a call of a def whose parameters are plain names of its frame -/
theorem enterP {a : Addr} {o : Obj} {fd : FuncData} {body : List Stmt} {args : Args} {R : Result → Shared → Prop}
    (ps : List Str) (vals : List Value) (rest : List Str) (cns : List Str) {ns : List Str} {vs cvs : List (Option Value)} {d : Nat} (hA : Room A d)
    (ho : s.heap.get? a = some o) (hdata : o.data = .func fd) (hg : G s.heap) (hlim : s.heap.NoLimit) (hcd : s.heap.CodeRec fd.code fd.qualname) (hbody : fd.body = .stmts body)
    (hbind : ∀ (Q' : List (Str × Value) → Shared → Prop) (E' : Value → Shared → Prop), Q' (ps.zip vals) s → wpAny (model prog w) A.in1 (bindArgs fd args) Q' E' s)
    (hloc : (ps.all fun x => decide (fd.scope.names.lookup x = some .local)) = true) (hlen : ps.length = vals.length) (hnd : decide ((ps ++ rest).Nodup) = true) (hcnd : decide cns.Nodup = true)
    (hc : (cns.all fun x => ((cellsFrom 0 fd.scope.names []).map (·.1)).contains x) = true)
    (hdbg : fd.scope.names.lookup (Str.ofString "__debug__") = none)
    (h : ∀ env s₁, EnvIs env fd.scope.names → FS G true s env ns vs cns cvs [] s₁ →
      wpAny (model prog w) (A.deeper env) (execs body env) (fun f s' => R (.ok (.ret (match f with | .ret v => v | _ => .none))) s') (fun _ _ => False) s₁)
    (hns : ns = ps ++ rest := by rfl) (hvs : vs = vals.map some ++ rest.map fun _ => none := by rfl) (hcvs : cvs = cns.map fun _ => none := by rfl)
    (hco : fd.scope.isCoroutine = false := by rfl) (hgen : fd.scope.isGenerator = false := by rfl) (hk : fd.scope.kind = .function := by rfl) (hclo : fd.closure = [] := by rfl)
    (hgl : fd.globals = mainGlobals := by rfl) (hbi : fd.builtins = builtinsNs := by rfl) :
    codeAny (model prog w) A (.call (.ref a) args) R s := by
  subst hns hvs hcvs
  have hnd' := of_decide_eq_true hnd
  have hl : ∀ x ∈ ps.zip vals, fd.scope.names.lookup x.1 = some .local := fun x hx => of_decide_eq_true (List.all_eq_true.mp hloc x.1 (List.of_mem_zip hx).1)
  have hz : (ps.zip vals).map (·.1) = ps := by rw [List.map_fst_zip]; omega
  refine enter (ps ++ rest) _ cns _ hA ho hdata hg hlim hcd hbody hbind (fun x hx => .inl (hl x hx)) (fun x v a => ?_) (fun x o a => ?_) hnd' (of_decide_eq_true hcnd) hdbg h hco hgen hk hclo hgl hbi
  · exact (bindL_local (ps.zip vals) (fun _ => none) hl (by rw [hz]; exact (List.nodup_append.mp hnd').1) x v).1 (at_params ps vals rest hlen a)
  · have e := atO_nones cns a
    subst e
    have hm := List.all_eq_true.mp hc x a.mem
    rw [List.contains_iff_mem] at hm
    rw [cellsFrom_names fd.scope.names 0 (s.heap.objs.size + 1) [] [] rfl] at hm
    obtain ⟨c, hc'⟩ := lookup_of_mem_map hm
    exact ⟨c, hc', by rw [bindC_local _ _ hl]⟩

/-- what a def hands back -/
def RetQ (Q : Value → Shared → Prop) (f : Flow) (s' : Shared) : Prop := match f with | .ret v => Q v s' | _ => Q .none s'
theorem callP {a : Addr} {o : Obj} {fd : FuncData} {body : List Stmt} {Q : Value → Shared → Prop} {pos : List Value} {kw : List (Str × Value)}
    (ps : List Str) (vals : List Value) (rest : List Str) (cns : List Str) (ns : List Str) (vs cvs : List (Option Value)) (nk : List (Str × NameKind)) {d : Nat} (hA : Room A (d + 1))
    (ho : s.heap.get? a = some o) (hdata : o.data = .func fd) (hg : G s.heap) (hlim : s.heap.NoLimit) (hcd : s.heap.CodeRec fd.code fd.qualname) (hbody : fd.body = .stmts body) (hnk : fd.scope.names = nk)
    (hbind : ∀ (Q' : List (Str × Value) → Shared → Prop) (E' : Value → Shared → Prop), Q' (ps.zip vals) s → wpAny (model prog w) A.in1 (bindArgs fd ⟨pos, kw⟩) Q' E' s)
    (hloc : (ps.all fun x => decide (nk.lookup x = some .local)) = true) (hlen : ps.length = vals.length) (hnd : decide (ns.Nodup) = true) (hcnd : decide cns.Nodup = true)
    (hc : (cns.all fun x => ((cellsFrom 0 nk []).map (·.1)).contains x) = true)
    (hdbg : nk.lookup (Str.ofString "__debug__") = none)
    (h : ∀ env s₁, EnvIs env nk → Room (A.deeper env) d → FS G true s env ns vs cns cvs [] s₁ → wpAny (model prog w) (A.deeper env) (execs body env) (RetQ Q) (fun _ _ => False) s₁)
    (hns : ns = ps ++ rest := by rfl) (hvs : vs = vals.map some ++ rest.map fun _ => none := by rfl) (hcvs : cvs = cns.map fun _ => none := by rfl)
    (hco : fd.scope.isCoroutine = false := by rfl) (hgen : fd.scope.isGenerator = false := by rfl) (hk : fd.scope.kind = .function := by rfl) (hclo : fd.closure = [] := by rfl)
    (hgl : fd.globals = mainGlobals := by rfl) (hbi : fd.builtins = builtinsNs := by rfl) :
    wpAny (model prog w) A (call (.ref a) pos kw) Q E s := by
  subst hnk
  refine wpAny_call ?_
  refine enterP ps vals rest cns hA ho hdata hg hlim hcd hbody hbind hloc hlen (by rw [← hns]; exact hnd) hcnd hc hdbg (fun env s₁ hE H => ?_) hns hvs hcvs hco hgen hk hclo hgl hbi
  refine wpAny_mono (h env s₁ hE (hA.deeper env) H) (fun f s' q => ?_) fun _ _ f => f.elim
  cases f <;> exact q
theorem iteD {p : Prop} [Decidable p] {P R : Prop} (h1 : p → P) (h2 : ¬ p → R) : if decide p = true then P else R := by
  by_cases h : p
  · rw [if_pos (decide_eq_true h)]; exact h1 h
  · rw [if_neg (by simpa using h)]; exact h2 h
theorem iteB {b : Bool} {P R : Prop} (h1 : b = true → P) (h2 : b = false → R) : if b = true then P else R := by
  cases b with
  | true => exact h1 rfl
  | false => exact h2 rfl

/-- what comes behind a statement -/
def SeqQ (M : Model) (A : Around) (E : Value → Shared → Prop) (rest : List Stmt) (env : Env) (Q : Flow → Shared → Prop) (f : Flow) (s' : Shared) : Prop :=
  match f with | .next => wpAny M A (execs rest env) Q E s' | f => Q f s'
theorem exCons {M : Model} {st : Stmt} {rest : List Stmt} {Q : Flow → Shared → Prop} (h : wpAny M A (exec st env) (SeqQ M A E rest env Q) E s) : wpAny M A (execs (st :: rest) env) Q E s :=
  wpAny_execs_cons (wpAny_mono h (fun f s' q => by cases f <;> exact q) fun _ _ x => x)
theorem exNil {M : Model} {Q : Flow → Shared → Prop} (h : Q .next s) : wpAny M A (execs [] env) Q E s := wpAny_execs_nil h
theorem seqNext {M : Model} {rest : List Stmt} {Q : Flow → Shared → Prop} (h : wpAny M A (execs rest env) Q E s) : SeqQ M A E rest env Q .next s := h
theorem seqRet {M : Model} {rest : List Stmt} {Q : Flow → Shared → Prop} {v : Value} (h : Q (.ret v) s) : SeqQ M A E rest env Q (.ret v) s := h
theorem retRet {Q : Value → Shared → Prop} {v : Value} (h : Q v s) : RetQ Q (.ret v) s := h
theorem exAssign {M : Model} {x : Str} {pos' pos : Pos} {value : Expr} {Q : Flow → Shared → Prop} (h : wpAny M A (eval value env) (fun v s₁ => wpAny M A (storeName env x v) (fun _ => Q .next) E s₁) E s)
    (hs : swapsWith value (some (.Name x pos')) pos.line env = pure false := by rfl) : wpAny M A (exec (.Assign [.Name x pos'] value pos) env) Q E s := wpAny_Assign_Name h hs
theorem mCall {M : Model} {o : Expr} {name : Str} {apos pos : Pos} {args : List Expr} {pl : Sem Bool} {Q : Value → Shared → Prop} (h : wpAny M A (eval o env) (fun ov s₁ => wpAny M A (getMethod ov name pl) (fun fx s₂ => wpAny M A (callWith pos fx.1 fx.2 (backTo pos (starEach args env)) []) Q E s₂) E s₁) E s)
    (he : eval (.Call (.Attribute o name apos) args [] pos) env = (do
      let ov ← eval o env
      standAt apos.atName
      let (f, first) ← holding [ov] (getMethod ov name pl)
      callWith pos f first (backTo pos (starEach args env)) []) := by rfl) :
    wpAny M A (eval (.Call (.Attribute o name apos) args [] pos) env) Q E s := MethodCall_ h he

/-- a def of the top, called -/
def FnAt (G : Heap → Prop) (a : Addr) : Prop := ∃ o fd, (∀ h : Heap, G h → h.get? a = some o) ∧ o.data = .func fd
theorem cwF {pos : Pos} {a : Addr} {e : Expr} {rest : List Expr} {Q : Value → Shared → Prop} (_H : FS G own s₀ env ns vs cns cvs led s) (hf : FnAt G a)
    (h : wpAny (model prog w) A (spliced (backTo pos (starEach (e :: rest) env))) (fun vs s₁ => G s₁.heap ∧ wpAny (model prog w) A (call (.ref a) vs) Q E s₁) E s)
    (he : starEach (e :: rest) env = (false, eval e env) :: starEach rest env := by rfl) :
    wpAny (model prog w) A (callWith pos (.ref a) [] (backTo pos (starEach (e :: rest) env)) []) Q E s := by
  obtain ⟨o, fd, ho, hd⟩ := hf
  exact callWith_def (o := o) (fd := fd) hd (wpAny_mono h (fun vs s₁ h₁ => ⟨ho _ h₁.1, h₁.2⟩) fun _ _ x => x) he
theorem cwB {pos : Pos} {id : String} {e : Expr} {rest : List Expr} {Q : Value → Shared → Prop}
    (h : wpAny (model prog w) A (spliced (backTo pos (starEach (e :: rest) env))) (fun vs s₁ => wpAny (model prog w) A (call (.builtin id) vs) Q E s₁) E s)
    (he : starEach (e :: rest) env = (false, eval e env) :: starEach rest env := by rfl) (hplain : (backTo pos (starEach rest env)).any (·.1) = false := by rfl) :
    wpAny (model prog w) A (callWith pos (.builtin id) [] (backTo pos (starEach (e :: rest) env)) []) Q E s := callWith_builtin1 h he hplain
theorem cwT {pos : Pos} {T : String} {e : Expr} {rest : List Expr} {Q : Value → Shared → Prop}
    (h : wpAny (model prog w) A (spliced (backTo pos (starEach (e :: rest) env))) (fun vs s₁ => wpAny (model prog w) A (call (.type T) vs) Q E s₁) E s)
    (he : starEach (e :: rest) env = (false, eval e env) :: starEach rest env := by rfl) (hplain : (backTo pos (starEach rest env)).any (·.1) = false := by rfl) :
    wpAny (model prog w) A (callWith pos (.type T) [] (backTo pos (starEach (e :: rest) env)) []) Q E s := callWith_type1 h he hplain
end

/-- the signs of the law's texts -/
def Sg (x : Nat) : Prop := x = 97 ∨ x = 65 ∨ x = 107 ∨ x = 75 ∨ x = 123 ∨ x = 91
def low (x : Nat) : Nat := if x = 65 then 97 else if x = 75 then 107 else x
theorem lower_sg {x : Nat} (h : Sg x) : Txt.lower (S [x]) = S [low x] := by
  rcases h with rfl | rfl | rfl | rfl | rfl | rfl <;> decide +kernel
def subc (x y : Nat) : Int := if x = y then 0 else if low x = low y then 1 else 2

theorem lowC {G : Heap → Prop} {own : Bool} {s₀ : Shared} {env : Env} {ns cns : List Str} {vs cvs : List (Option Value)} {led : Led} {s : Shared} {prog : Program} {w : World} {A : Around} {E : Value → Shared → Prop}
    (H : FS G own s₀ env ns vs cns cvs led s) {x : Nat} {t : Tok} {Q : Value → Shared → Prop} (hx : Sg x) (h : ∀ t s', FS G own s₀ env ns vs cns cvs led s' → Q (.str (S [low x]) t) s') :
    wpAny (model prog w) A (call (.builtin "str.lower") [.str (S [x]) t]) Q E s := lowS H (by rw [S_len]; simp) (lower_sg hx) h

section
variable {G : Heap → Prop} {own : Bool} {s₀ : Shared} {env : Env} {nk : List (Str × NameKind)} {ns cns : List Str} {vs cvs : List (Option Value)} {led : Led} {s : Shared}
variable {prog : Program} {w : World} {A : Around} {E : Value → Shared → Prop}
theorem size_1000 {n : Nat} (h : n ≤ 1000) : n ≤ sizeLine := by rw [sizeLine_eq]; omega
/-- a text from a place on -/
theorem slFrom {value : Expr} {lo hi : Option Expr} {p : Pos} {l : List Nat} {t u : Tok} {i : Int} {Q : Value → Shared → Prop} (H : FS G own s₀ env ns vs cns cvs led s) (h0 : 0 ≤ i) (h1 : i ≤ l.length) (hsz : l.length ≤ 1000)
    (h : ∀ t s', FS G own s₀ env ns vs cns cvs led s' → Q (.str (S (l.drop i.toNat)) t) s') :
    wpAny (model prog w) A (sliceTree value (.Slice lo hi none p) (.str (S l) t) (.int i u) .none) Q E s :=
  slS H (.int i u) .none (by rw [S_len]; exact size_1000 hsz) (slice_drop l h0 h1) h
/-- a text up to a place -/
theorem slTo {value : Expr} {lo hi : Option Expr} {p : Pos} {l : List Nat} {t u : Tok} {i : Int} {Q : Value → Shared → Prop} (H : FS G own s₀ env ns vs cns cvs led s) (h0 : 0 ≤ i) (h1 : i ≤ l.length) (hsz : l.length ≤ 1000)
    (h : ∀ t s', FS G own s₀ env ns vs cns cvs led s' → Q (.str (S (l.take i.toNat)) t) s') :
    wpAny (model prog w) A (sliceTree value (.Slice lo hi none p) (.str (S l) t) .none (.int i u)) Q E s :=
  slS H .none (.int i u) (by rw [S_len]; exact size_1000 hsz) (slice_take l h0 h1) h
/-- «x or None» -/
def OrPart (k : Int) (v : Value) : Prop := (k = 0 ∧ v = .none) ∨ (k ≠ 0 ∧ ∃ t, v = .int k t)
theorem orNone {k : Int} {x : Str} {p1 p2 p3 : Pos} {c : Nat} {t : Tok} {Q : Value → Shared → Prop} (H : FS G own s₀ env ns vs cns cvs led s) (hE : EnvIs env nk) (ha : At ns vs x (.int k t)) (hk : nk.lookup x = some .local)
    (h : ∀ v, OrPart k v → Q v s) : wpAny (model prog w) A (eval (.BoolOp .Or [.Name x p1, .Constant .none c p2] p3) env) Q E s := by
  refine BoolOp_or (nmL H hE ha hk (truI ?_))
  refine iteB (fun e => h _ (.inr ⟨by simpa using e, t, rfl⟩)) (fun e => BoolOp_one (cNone (h _ (.inl ⟨by simpa using e, rfl⟩))))
/-- a text but for its last signs -/
theorem slOr {value : Expr} {lo hi : Option Expr} {p : Pos} {l : List Nat} {t : Tok} {k : Int} {v : Value} {Q : Value → Shared → Prop} (H : FS G own s₀ env ns vs cns cvs led s) (hv : OrPart k v) (h0 : k ≤ 0) (h1 : -(l.length : Int) ≤ k) (hsz : l.length ≤ 1000)
    (h : ∀ t s', FS G own s₀ env ns vs cns cvs led s' → Q (.str (S (l.take (l.length + k).toNat)) t) s') :
    wpAny (model prog w) A (sliceTree value (.Slice lo hi none p) (.str (S l) t) .none v) Q E s := by
  rcases hv with ⟨rfl, rfl⟩ | ⟨hk, u, rfl⟩
  · refine slS H .none .none (by rw [S_len]; exact size_1000 hsz) (slice_whole l) fun t s' H' => ?_
    have := h t s' H'
    rw [show (((l.length : Int) + 0).toNat) = l.length by omega, List.take_length] at this
    exact this
  · exact slS H .none (.int k u) (by rw [S_len]; exact size_1000 hsz) (slice_neg l (by omega) h1) h
theorem lenS' (H : FS G own s₀ env ns vs cns cvs led s) {l : List Nat} {t : Tok} {Q : Value → Shared → Prop} (hsz : l.length ≤ 1000) (h : ∀ t s', FS G own s₀ env ns vs cns cvs led s' → Q (.int l.length t) s') :
    wpAny (model prog w) A (call (.builtin "len") [.str (S l) t]) Q E s := lenS H (size_1000 hsz) h
theorem lenL' (H : FS G own s₀ env ns vs cns cvs led s) {a : Addr} {xs : List Value} {Q : Value → Shared → Prop} (hl : s.heap.IsList a xs.toArray) (hsz : xs.length ≤ 1000)
    (h : ∀ t s', FS G own s₀ env ns vs cns cvs led s' → Q (.int xs.length t) s') : wpAny (model prog w) A (call (.builtin "len") [.ref a]) Q E s := lenL H hl (size_1000 hsz) h
theorem truS' (H : FS G own s₀ env ns vs cns cvs led s) {l : List Nat} {t : Tok} {Q : Bool → Shared → Prop} (hsz : l.length ≤ 1000) (h : ∀ s', FS G own s₀ env ns vs cns cvs led s' → Q (!l.isEmpty) s') :
    wpAny (model prog w) A (truthy (.str (S l) t)) Q E s := truS H (size_1000 hsz) h
theorem mulI' (H : FS G own s₀ env ns vs cns cvs led s) {a b : Int} {t u : Tok} {Q : Value → Shared → Prop} (hb : -(2 ^ 32) < b ∧ b < 2 ^ 32 ∨ -(2 ^ 32) < a ∧ a < 2 ^ 32) (h : ∀ t s', FS G own s₀ env ns vs cns cvs led s' → Q (.int (a * b) t) s') :
    wpAny (model prog w) A (binaryOp .Mult (.int a t) (.int b u)) Q E s :=
  mulI H (hb.elim (fun hb => IntMulOk.of_right (intBits_le_64 (by omega) (by omega))) (fun ha => IntMulOk.of_left (intBits_le_64 (by omega) (by omega)))) h
theorem endI {Q : Value → Shared → Prop} {r v : Int} {t : Tok} {s' : Shared} (h : ∀ t s', Keeps s s' → Q (.int r t) s') (H : FS G own s env ns vs cns cvs led s') (e : v = r) : Q (.int v t) s' := e ▸ h _ _ H.kept
theorem iaddI (H : FS G own s₀ env ns vs cns cvs led s) {a b : Int} {t u : Tok} {Q : Value → Shared → Prop} (h : ∀ t s', FS G own s₀ env ns vs cns cvs led s' → Q (.int (a + b) t) s') :
    wpAny (model prog w) A (inplaceOp .Add (.int a t) (.int b u)) Q E s := P.iadd_int (h _ _ (H.keeps (keeps_tok _ _)))
theorem isubI (H : FS G own s₀ env ns vs cns cvs led s) {a b : Int} {t u : Tok} {Q : Value → Shared → Prop} (h : ∀ t s', FS G own s₀ env ns vs cns cvs led s' → Q (.int (a - b) t) s') :
    wpAny (model prog w) A (inplaceOp .Sub (.int a t) (.int b u)) Q E s := P.isub_int (h _ _ (H.keeps (keeps_tok _ _)))
end
end Mine
namespace Mine
section
variable {G : Heap → Prop} {own : Bool} {s₀ : Shared} {env : Env} {nk : List (Str × NameKind)} {ns cns : List Str} {vs cvs : List (Option Value)} {led : Led} {s : Shared}
variable {prog : Program} {w : World} {A : Around} {E : Value → Shared → Prop}
/-- what is wanted behind, by a name -/
theorem genQ {α : Type} {M : Model} {t : Sem α} {Q : α → Shared → Prop} (h : ∀ QQ, QQ = Q → wpAny M A t QQ E s) : wpAny M A t Q E s := h Q rfl
theorem iteT {P R : Prop} (h : P) : if true = true then P else R := h
theorem iteF {P R : Prop} (h : R) : if false = true then P else R := h

theorem slFromN {value : Expr} {lo hi : Option Expr} {p : Pos} {l : List Nat} {t u : Tok} {i : Nat} {Q : Value → Shared → Prop} (H : FS G own s₀ env ns vs cns cvs led s) (h1 : i ≤ l.length) (hsz : l.length ≤ 1000)
    (h : ∀ t s', FS G own s₀ env ns vs cns cvs led s' → Q (.str (S (l.drop i)) t) s') :
    wpAny (model prog w) A (sliceTree value (.Slice lo hi none p) (.str (S l) t) (.int (i : Int) u) .none) Q E s := slFrom H (by omega) (by omega) hsz h
theorem slToN {value : Expr} {lo hi : Option Expr} {p : Pos} {l : List Nat} {t u : Tok} {i : Nat} {Q : Value → Shared → Prop} (H : FS G own s₀ env ns vs cns cvs led s) (h1 : i ≤ l.length) (hsz : l.length ≤ 1000)
    (h : ∀ t s', FS G own s₀ env ns vs cns cvs led s' → Q (.str (S (l.take i)) t) s') :
    wpAny (model prog w) A (sliceTree value (.Slice lo hi none p) (.str (S l) t) .none (.int (i : Int) u)) Q E s := slTo H (by omega) (by omega) hsz h
theorem slOrN {value : Expr} {lo hi : Option Expr} {p : Pos} {l : List Nat} {t : Tok} {q : Nat} {v : Value} {Q : Value → Shared → Prop} (H : FS G own s₀ env ns vs cns cvs led s) (hv : OrPart (-(q : Int)) v) (h1 : q ≤ l.length) (hsz : l.length ≤ 1000)
    (h : ∀ t s', FS G own s₀ env ns vs cns cvs led s' → Q (.str (S (l.take (l.length - q))) t) s') :
    wpAny (model prog w) A (sliceTree value (.Slice lo hi none p) (.str (S l) t) .none v) Q E s :=
  slOr H hv (by omega) (by omega) hsz fun t s' H' => by
    have := h t s' H'
    rw [show ((l.length : Int) + -(q : Int)).toNat = l.length - q by omega]
    exact this
abbrev Pre := List (Option Value) → List (Option Value) → Led → Prop
/-- the end of a turn of a while -/
def TurnQ (G : Heap → Prop) (s₀ : Shared) (env : Env) (ns cns : List Str) (J : Inv) (k : Nat) (Q : Flow → Shared → Prop) (f : Flow) (s₃ : Shared) : Prop :=
  match f with
  | .next => ∃ m, m < k ∧ ∃ vs₃ cvs₃ led₃, J m vs₃ cvs₃ led₃ ∧ FS G true s₀ env ns vs₃ cns cvs₃ led₃ s₃
  | .ret v => Q (.ret v) s₃
  | _ => False
theorem turnNext {J : Inv} {k : Nat} {Q : Flow → Shared → Prop} (m : Nat) {vs₃ cvs₃ : List (Option Value)} {led₃ : Led} (H : FS G true s₀ env ns vs₃ cns cvs₃ led₃ s) (hm : m < k) (hJ : J m vs₃ cvs₃ led₃) : TurnQ G s₀ env ns cns J k Q .next s :=
  ⟨m, hm, vs₃, cvs₃, led₃, hJ, H⟩
theorem turnRet {J : Inv} {k : Nat} {Q : Flow → Shared → Prop} {v : Value} (h : Q (.ret v) s) : TurnQ G s₀ env ns cns J k Q (.ret v) s := h
/-- a state that is told -/
def Told (G : Heap → Prop) (s₀ : Shared) (env : Env) (ns cns : List Str) (X : Pre) (s₃ : Shared) : Prop := ∃ vs₃ cvs₃ led₃, X vs₃ cvs₃ led₃ ∧ FS G true s₀ env ns vs₃ cns cvs₃ led₃ s₃
theorem told {X : Pre} (H : FS G true s₀ env ns vs cns cvs led s) (h : X vs cvs led) : Told G s₀ env ns cns X s := ⟨_, _, _, h, H⟩
/-- a while, its end told -/
theorem whileX {test : Expr} {body : List Stmt} {pos : Pos} {Q : Flow → Shared → Prop} (H : FS G true s₀ env ns vs cns cvs led s) (J : Inv) (X : Pre) (n : Nat) (h0 : J n vs cvs led)
    (turn : ∀ k vs₁ cvs₁ led₁ s₁, J k vs₁ cvs₁ led₁ → FS G true s₀ env ns vs₁ cns cvs₁ led₁ s₁ →
      wpAny (model prog w) A (isTrue test env (eval test env)) (fun b s₂ => if b then wpAny (model prog w) A (execs body env) (TurnQ G s₀ env ns cns J k Q) (fun _ _ => False) s₂ else Told G s₀ env ns cns X s₂) (fun _ _ => False) s₁)
    (hQ : ∀ vs' cvs' led' s', X vs' cvs' led' → FS G true s₀ env ns vs' cns cvs' led' s' → Q .next s') :
    wpAny (model prog w) A (exec (.While test body [] pos) env) Q E s := by
  refine whileJ H J n h0 fun k vs₁ cvs₁ led₁ s₁ hJ H₁ => wpAny_mono (turn k vs₁ cvs₁ led₁ s₁ hJ H₁) (fun b s₂ h₂ => ?_) fun _ _ f => f
  cases b with
  | true =>
    simp only [if_true] at h₂ ⊢
    refine wpAny_mono h₂ (fun f s₃ h₃ => ?_) fun _ _ f => f
    cases f <;> exact h₃
  | false =>
    simp only [Bool.false_eq_true, if_false] at h₂ ⊢
    obtain ⟨vs₃, cvs₃, led₃, hX, H₃⟩ := h₂
    exact hQ _ _ _ _ hX H₃
/-- a statement, its end told -/
def CutQ (G : Heap → Prop) (s₀ : Shared) (env : Env) (ns cns : List Str) (X : Pre) (Q : Flow → Shared → Prop) (f : Flow) (s₃ : Shared) : Prop :=
  match f with | .next => Told G s₀ env ns cns X s₃ | f => Q f s₃
theorem exCut {st : Stmt} {rest : List Stmt} {Q : Flow → Shared → Prop} (_H : FS G true s₀ env ns vs cns cvs led s) (X : Pre) (h1 : wpAny (model prog w) A (exec st env) (CutQ G s₀ env ns cns X Q) E s)
    (h2 : ∀ vs' cvs' led' s', X vs' cvs' led' → FS G true s₀ env ns vs' cns cvs' led' s' → wpAny (model prog w) A (execs rest env) Q E s') :
    wpAny (model prog w) A (execs (st :: rest) env) Q E s := by
  refine exCons (wpAny_mono h1 (fun f s' q => ?_) fun _ _ x => x)
  cases f with
  | next => obtain ⟨vs₃, cvs₃, led₃, hX, H₃⟩ := q; exact h2 _ _ _ _ hX H₃
  | ret v => exact q
  | brk => exact q
  | cont => exact q
theorem cutNext {X : Pre} {Q : Flow → Shared → Prop} (H : FS G true s₀ env ns vs cns cvs led s) (h : X vs cvs led) : CutQ G s₀ env ns cns X Q .next s := ⟨_, _, _, h, H⟩
theorem cutRet {X : Pre} {Q : Flow → Shared → Prop} {v : Value} (h : Q (.ret v) s) : CutQ G s₀ env ns cns X Q (.ret v) s := h
/-- the end of a turn of a for -/
def ForQ (G : Heap → Prop) (s₀ : Shared) (env : Env) (ns cns : List Str) (J : Inv) (i : Nat) (hid : Led) (Q : Flow → Shared → Prop) (f : Flow) (s₃ : Shared) : Prop :=
  match f with
  | .next => ∃ vs₃ cvs₃ led₃, J i vs₃ cvs₃ led₃ ∧ FS G true s₀ env ns vs₃ cns cvs₃ (led₃ ++ hid) s₃
  | .ret v => Q (.ret v) s₃
  | _ => False
theorem forNext {J : Inv} {i : Nat} {hid : Led} {Q : Flow → Shared → Prop} {vs₃ cvs₃ : List (Option Value)} (led₃ : Led) (H : FS G true s₀ env ns vs₃ cns cvs₃ (led₃ ++ hid) s) (hJ : J i vs₃ cvs₃ led₃) : ForQ G s₀ env ns cns J i hid Q .next s :=
  ⟨vs₃, cvs₃, led₃, hJ, H⟩
theorem forRet {J : Inv} {i : Nat} {hid : Led} {Q : Flow → Shared → Prop} {v : Value} (h : Q (.ret v) s) : ForQ G s₀ env ns cns J i hid Q (.ret v) s := h
theorem forX {x : Str} {px : Pos} {body : List Stmt} {Q : Flow → Shared → Prop} (hid : Led) {d : Nat} (hE : EnvIs env nk) (hR : Room A d) {r : Addr} {a b c : Int} {t u v : Tok}
    (H : FS G true s₀ env ns vs cns cvs (led ++ hid) s) (hr : IsRange s.heap r a b c t u v) (n : Nat) (hsm : Builtin.Range.small a b c = true) (hn : Builtin.Range.rangeSize a b c = n)
    (J : Inv) (h0 : J 0 vs cvs led) (hx : nk.lookup x = some .local)
    (turn : ∀ i t vs₁ cvs₁ led₁, i < n → J i vs₁ cvs₁ led₁ → ∃ vs₂, Put ns vs₁ x (.int (a + (i : Int) * c) t) vs₂ ∧ ∀ hid' s₂, FS G true s₀ env ns vs₂ cns cvs₁ (led₁ ++ hid') s₂ →
      wpAny (model prog w) A (execs body env) (ForQ G s₀ env ns cns J (i + 1) hid' Q) (fun _ _ => False) s₂)
    (hQ : ∀ vs' cvs' led' s', J n vs' cvs' led' → FS G true s₀ env ns vs' cns cvs' (led' ++ hid) s' → Q .next s') :
    wpAny (model prog w) A (pyIter (.ref r)) (fun it s₂ => codeAny (model prog w) A (.forLoop (.Name x px) it body [] env) (fun r s' => match r with | .ok f => Q f s' | .error e => cameBackBy (model prog w) A env E e s') s₂) E s := by
  refine forR hE hx hR.handled H hr hsm n hn J h0 (fun i t vs₁ cvs₁ led₁ hi hJ => ?_) hQ
  obtain ⟨vs₂, hp, hb⟩ := turn i t vs₁ cvs₁ led₁ hi hJ
  refine ⟨vs₂, hp, fun hid' s₂ H₂ => wpAny_mono (hb hid' s₂ H₂) (fun f s₃ h₃ => ?_) fun _ _ f => f⟩
  cases f <;> exact h₃
theorem small_n {n : Nat} (h : n ≤ 1000) : Builtin.Range.small 0 n 1 = true ∧ Builtin.Range.rangeSize 0 n 1 = n := by
  refine ⟨small_one (by decide) (by decide) (by omega) (by omega), ?_⟩
  rw [rangeSize_one]; split <;> omega
theorem small_ab {a b : Int} (ha : -1000 ≤ a ∧ a ≤ 1000) (hb : -1000 ≤ b ∧ b ≤ 1000) : Builtin.Range.small a b 1 = true ∧ Builtin.Range.rangeSize a b 1 = ((b - a).toNat : Nat) := by
  refine ⟨small_one (by omega) (by omega) (by omega) (by omega), ?_⟩
  rw [rangeSize_one]; split <;> omega

/-- the ints of a list -/
theorem ints_get : ∀ {xs : List Value} {ms : List Int}, IntsAre xs ms → ∀ {i : Nat} {m : Int}, ms[i]? = some m → ∃ t, xs[i]? = some (.int m t)
  | _, _, .nil, _, _, h => by simp at h
  | _, _, .cons n t _, 0, m, h => by simp at h; subst h; exact ⟨t, rfl⟩
  | _, _, .cons n t r, i + 1, m, h => by simpa using ints_get r (by simpa using h)
theorem ints_set : ∀ {xs : List Value} {ms : List Int}, IntsAre xs ms → ∀ (i : Nat) (m : Int) (t : Tok), IntsAre (xs.set i (.int m t)) (ms.set i m)
  | _, _, .nil, _, _, _ => .nil
  | _, _, .cons n t r, 0, m, t' => .cons m t' r
  | _, _, .cons n t r, i + 1, m, t' => .cons n t (ints_set r i m t')
theorem ints_of_get : ∀ (xs : List Value) (ms : List Int), xs.length = ms.length → (∀ (i : Nat) (m : Int), ms[i]? = some m → ∃ t, xs[i]? = some (.int m t)) → IntsAre xs ms
  | [], [], _, _ => .nil
  | x :: xs, m :: ms, hl, h => by
    obtain ⟨t, e⟩ := h 0 m rfl
    simp at e
    subst e
    exact .cons m t (ints_of_get xs ms (by simpa using hl) fun i k hk => by simpa using h (i + 1) k (by simpa using hk))
theorem swapped_is (hE : EnvIs env nk) {x y : Str} {p1 p2 p3 q1 q2 q3 : Pos} {k1 k2 : Nat} (hx : nk.lookup x = some .local) (hy : nk.lookup y = some .local) (hxy : x ≠ y) (hp : p2.line = p1.line) :
    swappedStores [.Tuple [.Name x p1, .Name y p2] k1 p3] (.Tuple [.Name y q1, .Name x q2] k2 q3) env = pure (some [x, y]) := by
  have e1 := hE.of hx
  have e2 := hE.of hy
  have hd1 := hE.nd hx
  have hd2 := hE.nd hy
  have hb : env.blockKind = .function := by unfold Env.blockKind; rw [hE.kind]; rfl
  have hyx : y ≠ x := fun e => hxy e.symm
  have hl1 : (Expr.Name x p1).pos.line = p1.line := rfl
  have ed : [x, y].eraseDups.length = 2 := by
    have : (y == x) = false := beq_eq_false_iff_ne.mpr hyx
    simp [List.eraseDups_cons, this]
  unfold swappedStores
  simp only [pure_bind, List.length_cons, List.length_nil, Nat.zero_add, Nat.reduceAdd, beq_self_eq_true, Bool.true_or, Bool.not_true, bne_self_eq_false, Bool.or_self, hb, Bool.false_eq_true, if_false, List.any_cons, List.any_nil, Bool.or_false, Bool.false_or, List.head?_cons, Option.map_some, Option.getD_some, List.filterMap_cons, List.filterMap_nil, e1, e2, hl1, hp, Bool.and_self, if_true, ed, List.all_cons, List.all_nil, Bool.and_true]
  have f1 : foldedForSure 8 (Expr.Name y q1) = false := rfl
  have c1 : constantsAlone 8 (Expr.Name y q1) = false := hd2
  rw [f1, c1]
  rfl
theorem swap2 (H : FS G true s₀ env ns vs cns cvs led s) (hE : EnvIs env nk) (hh : A.handled = none) {x y : Str} {v1 v2 : Value} {p1 p2 p3 q1 q2 q3 pos : Pos} {k1 k2 : Nat} {Q : Flow → Shared → Prop} {vs1 vs2 : List (Option Value)}
    (ax : At ns vs x v1) (ay : At ns vs y v2) (pu1 : Put ns vs y v1 vs1) (pu2 : Put ns vs1 x v2 vs2) (hx : nk.lookup x = some .local) (hy : nk.lookup y = some .local) (hxy : x ≠ y) (hp : p2.line = p1.line)
    (h : ∀ s', FS G true s₀ env ns vs2 cns cvs led s' → Q .next s') :
    wpAny (model prog w) A (exec (.Assign [.Tuple [.Name x p1, .Name y p2] k1 p3] (.Tuple [.Name y q1, .Name x q2] k2 q3) pos) env) Q E s := by
  refine Assign_Tuple_swapped (names := [x, y]) ?_ (by rfl) (swapped_is hE hx hy hxy hp)
  refine Tuple_ (spliced_more (nmL H hE ay hy (spliced_more (nmL H hE ax hx (spliced_none ?_)))))
  refine wpAny_newObj_type ?_
  have H1 := H.keeps (keeps_push s { cls := .type "tuple", data := .seq [v2, v1].toArray } s.toks)
  refine unpackItems_tuple (items := [v2, v1].toArray) hh ⟨_, Heap.get?_push_size _ rfl, rfl, _, rfl⟩ fun h' he => ?_
  have H2 : FS G true s₀ env ns vs cns cvs led { s with heap := h' } := H1.keeps (s' := { s with heap := h' }) ⟨h', s.toks, rfl, fun b o e => he b o (Nat.ne_of_lt (Heap.lt_size e)) e⟩
  show wpAny (model prog w) A (assignInOrder [bindName env y, bindName env x] [v1, v2]) _ _ _
  unfold assignInOrder
  refine wpAny_bind (wpAny_holding (wpAny_bindName (stL H2 hE pu1 hy fun s2 H3 => ?_)))
  unfold assignInOrder
  refine wpAny_bind (wpAny_holding (wpAny_bindName (stL H3 hE pu2 hx fun s3 H4 => ?_)))
  unfold assignInOrder
  exact wpAny_pure (h _ H4)
theorem FS.lstQ (H : FS G own s₀ env ns vs cns cvs led s) {a : Addr} {P : Obj → Prop} {xs : List Value} (hm : (a, P) ∈ led) (hP : ∀ o, P o → LstO xs o) : s.heap.IsList a xs.toArray := by
  obtain ⟨⟨o, ho, hq⟩, _⟩ := H.has _ hm
  exact ⟨o, ho, (hP o hq).1, (hP o hq).2⟩
theorem small_two : ∀ n : Fin 41, Builtin.Range.small 2 (2 * ((n.val : Int) + 1)) 2 = true ∧ Builtin.Range.rangeSize 2 (2 * ((n.val : Int) + 1)) 2 = (n.val : Int) := by decide +kernel
theorem idxL' {value slice : Expr} {a : Addr} {xs : List Value} {ms : List Int} {k : Nat} {m : Int} {t : Tok} {Q : Value → Shared → Prop} (hl : s.heap.IsList a xs.toArray) (hi : IntsAre xs ms) (hk : k < 1000)
    (hx : ms[k]? = some m) (hs : subscripted slice false (.ref a) (.int (k : Int) t) = operate [.ref a, .int (k : Int) t] (getItem (.ref a) (.int (k : Int) t))) (h : ∀ u, Q (.int m u) s) :
    wpAny (model prog w) A (subscriptTail value slice (.ref a) (.int (k : Int) t)) Q E s := by
  obtain ⟨u, e⟩ := ints_get hi hx
  exact idxL hl (by omega) (by omega) (by simpa using e) hs (h u)
theorem setL' (H : FS G true s₀ env ns vs cns cvs led s) {i : Nat} {a : Addr} {P : Obj → Prop} {xs : List Value} {k : Nat} {t : Tok} {v : Value} {Q : Unit → Shared → Prop} (hi : led[i]? = some (a, P)) (hP : ∀ o, P o → LstO xs o)
    (h1 : k < 1000) (hn : k < xs.length) (h : ∀ s', FS G true s₀ env ns vs cns cvs (led.set i (a, LstO (xs.set k v))) s' → Q () s') :
    wpAny (model prog w) A (setItem (.ref a) (.int (k : Int) t) v) Q E s := setL H hi hP (by omega) (by omega) (by omega) h
theorem isNN {Q : Value → Shared → Prop} (h : Q (.bool true) s) : wpAny (model prog w) A (compareOp .Is .none .none) Q E s := wpAny_is_self (by decide) h
theorem isIN {a : Int} {t : Tok} {Q : Value → Shared → Prop} (h : Q (.bool false) s) : wpAny (model prog w) A (compareOp .Is (.int a t) .none) Q E s := is_int_none h
theorem isRN {a : Addr} {Q : Value → Shared → Prop} (h : Q (.bool false) s) : wpAny (model prog w) A (compareOp .Is (.ref a) .none) Q E s := is_ref_none h
theorem fdiv2 (H : FS G own s₀ env ns vs cns cvs led s) {a b : Nat} {t u : Tok} {Q : Value → Shared → Prop} (h : ∀ t s', FS G own s₀ env ns vs cns cvs led s' → Q (.int (((a + b) / 2 : Nat) : Int) t) s') :
    wpAny (model prog w) A (binaryOp .FloorDiv (.int ((a : Int) + (b : Int)) t) (.int 2 u)) Q E s :=
  fdivI H (by decide) (by decide) fun t s' H' => by
    have := h t s' H'
    rw [show Int.fdiv ((a : Int) + (b : Int)) 2 = (((a + b) / 2 : Nat) : Int) by
      rw [Int.fdiv_eq_ediv_of_nonneg _ (by decide)]; omega]
    exact this
theorem newL' (H : FS G own s₀ env ns vs cns cvs led s) {xs : List Value} {Q : Value → Shared → Prop} (hsz : xs.length ≤ 1000) (h : ∀ b s', FS G own s₀ env ns vs cns cvs ((b, PlO xs) :: led) s' → Q (.ref b) s') :
    wpAny (model prog w) A (newList xs) Q E s := newL H (size_1000 hsz) h
theorem idxSN {value slice : Expr} {l : List Nat} {k : Nat} {t u : Tok} {c : Nat} {Q : Value → Shared → Prop} (H : FS G own s₀ env ns vs cns cvs led s) (hlen : l.length ≤ 1000) (hx : l[k]? = some c)
    (hs : subscripted slice false (.str (S l) t) (.int (k : Int) u) = operate [.str (S l) t, .int (k : Int) u] (getItem (.str (S l) t) (.int (k : Int) u))) (h : ∀ t s', FS G own s₀ env ns vs cns cvs led s' → Q (.str (S [c]) t) s') :
    wpAny (model prog w) A (subscriptTail value slice (.str (S l) t) (.int (k : Int) u)) Q E s := by
  have := (List.getElem?_eq_some_iff.mp hx).1
  exact idxS H (by constructor <;> omega) (j := k) (by rw [if_neg (by omega)]) hx hs h
end
end Mine
namespace Mine
section
variable {G : Heap → Prop} {own : Bool} {s₀ : Shared} {env : Env} {nk : List (Str × NameKind)} {ns cns : List Str} {vs cvs : List (Option Value)} {led : Led} {s : Shared}
variable {prog : Program} {w : World} {A : Around} {E : Value → Shared → Prop}
/-- an expression that stands alone -/
theorem exExpr {e : Expr} {pos : Pos} {Q : Flow → Shared → Prop} (hE : EnvIs env nk) (h : wpAny (model prog w) A (eval e env) (fun _ => Q .next) E s) (hs : swapsWith e none pos.line env = pure false := by rfl) : wpAny (model prog w) A (exec (.Expr e pos) env) Q E s := wpAny_Expr_any h (by unfold interactive; rw [hE.kind]; rfl) hs
/-- new objects, laid by a call -/
def NewLed (s s' : Shared) (led : Led) : Prop := (∀ p ∈ led, (∃ o, s'.heap.get? p.1 = some o ∧ p.2 o) ∧ s.heap.get? p.1 = none) ∧ led.Pairwise fun x y => x.1 ≠ y.1
theorem FS.newLed (H : FS G own s₀ env ns vs cns cvs led s) : NewLed s₀ s led := ⟨fun p hp => ⟨(H.has p hp).1, (H.has p hp).2.2⟩, H.apart⟩
theorem FS.news (H : FS G own s₀ env ns vs cns cvs led s) {s' : Shared} (k : Keeps s s') {led' : Led} (N : NewLed s s' led') : FS G own s₀ env ns vs cns cvs (led' ++ led) s' := by
  have H' := H.keeps k
  refine { H' with cells := ?_, has := ?_, apart := ?_ }
  · intro x o b
    obtain ⟨c, h1, h2, h3, h4, h5⟩ := H'.cells x o b
    refine ⟨c, h1, h2, h3, h4, fun p hp => ?_⟩
    rcases List.mem_append.mp hp with hp | hp
    · obtain ⟨c', e, h2', _⟩ := H.cells x o b
      rw [h1] at e; cases e
      obtain ⟨oc, hoc, _⟩ := h2'
      intro e; subst e; rw [(N.1 p hp).2] at hoc; cases hoc
    · exact h5 p hp
  · intro p hq
    rcases List.mem_append.mp hq with hq | hq
    · refine ⟨(N.1 p hq).1, ?_, ?_⟩
      · obtain ⟨m, ⟨o, _, _, ho, _⟩, _⟩ := H.vars
        intro e; rw [← e, (N.1 p hq).2] at ho; cases ho
      · cases e : s₀.heap.get? p.1 with
        | none => rfl
        | some o => have := H.keep _ o e; rw [(N.1 p hq).2] at this; cases this
    · exact H'.has p hq
  · refine List.pairwise_append.mpr ⟨N.2, H.apart, fun x hx y hy e => ?_⟩
    obtain ⟨⟨o, ho, _⟩, _⟩ := H.has y hy
    rw [← e, (N.1 x hx).2] at ho; cases ho
/-- a name captured -/
theorem nmC0 (H : FS G own s₀ env ns vs cns cvs led s) (hE : EnvIs env nk) {x : Str} {pos : Pos} {v : Value} {Q : Value → Shared → Prop} {c : Addr} (hc : env.cells.lookup x = some c) (hv : s₀.heap.IsCell c (some v)) (hk : nk.lookup x = some .cell) (h : Q v s) :
    wpAny (model prog w) A (eval (.Name x pos) env) Q E s :=
  wpAny_Name (wpAny_loadName_cell hE.kind (hE.of hk) hc (let ⟨o, h1, h2⟩ := hv; ⟨o, H.keep _ _ h1, h2⟩) h) (hE.nd hk)
end
end Mine
namespace Mine
/-- one turn of a comprehension's clause -/
def cTurn (t : Expr) (ip : Pos) (body : Env → Sem Unit) (e : Expr) (d : Nat) (it acc : Value) (env : Env) : Sem Fin :=
  standAt ip >>= fun _ => pyNext it >>= fun r => match r with
    | none => pure (.done .next)
    | some v => letOwnedTupleGo t it v >>= fun _ => assign t env v >>= fun _ => body env >>= fun _ => again (.compLoop e d it acc env)
/-- what the outer clause does at each of its turns -/
def cInner (i1 : Expr) (e : Expr) (acc : Value) (env : Env) : Sem Unit :=
  eval i1 env >>= fun x => standAt i1.pos >>= fun _ => foldedSetIterable i1 env x >>= fun x => holding [x] (pyIter x) >>= fun it' => runOwn (.compStart e 1 it' acc env) env >>= fun _ => pure ()
def cEmit (elt : Expr) (acc : Value) (env : Env) : Sem Unit := eval elt env >>= fun x => call (.builtin "list.append") [acc, x] >>= fun _ => pure ()
theorem cTurn_0' (elt t0 i0 t1 i1 : Expr) (scope : Scope) (pos : Pos) (it acc : Value) (env : Env) :
    compTurn (.ListComp elt [⟨t0, i0, [], 0⟩, ⟨t1, i1, [], 0⟩] scope pos) 0 it acc env = (standAt i0.pos >>= fun _ => pyNext it >>= fun r => match r with
    | none => pure (.done .next)
    | some v => letOwnedTupleGo t0 it v >>= fun _ => assign t0 env v >>= fun _ =>
      (eval i1 env >>= fun x => standAt i1.pos >>= fun _ => foldedSetIterable i1 env x >>= fun x => holding [x] (pyIter x) >>= fun it' => runOwn (.compStart (.ListComp elt [⟨t0, i0, [], 0⟩, ⟨t1, i1, [], 0⟩] scope pos) 1 it' acc env) env >>= fun _ => again (.compLoop (.ListComp elt [⟨t0, i0, [], 0⟩, ⟨t1, i1, [], 0⟩] scope pos) 0 it acc env))) := by rfl
theorem cTurn_0 (elt t0 i0 t1 i1 : Expr) (scope : Scope) (pos : Pos) (it acc : Value) (env : Env) :
    compTurn (.ListComp elt [⟨t0, i0, [], 0⟩, ⟨t1, i1, [], 0⟩] scope pos) 0 it acc env = cTurn t0 i0.pos (cInner i1 (.ListComp elt [⟨t0, i0, [], 0⟩, ⟨t1, i1, [], 0⟩] scope pos) acc) (.ListComp elt [⟨t0, i0, [], 0⟩, ⟨t1, i1, [], 0⟩] scope pos) 0 it acc env := by
  rw [cTurn_0']
  unfold cTurn cInner
  simp only [bind_assoc, pure_bind]
theorem cTurn_1 (elt t0 i0 t1 i1 : Expr) (scope : Scope) (pos : Pos) (it acc : Value) (env : Env) :
    compTurn (.ListComp elt [⟨t0, i0, [], 0⟩, ⟨t1, i1, [], 0⟩] scope pos) 1 it acc env = cTurn t1 i1.pos (cEmit elt acc) (.ListComp elt [⟨t0, i0, [], 0⟩, ⟨t1, i1, [], 0⟩] scope pos) 1 it acc env := by rfl
section
variable {prog : Program} {w : World} {A : Around} {E : Value → Shared → Prop} {R : Result → Shared → Prop} {s : Shared}
theorem compLoopG {e elt t : Expr} {gens : List Comprehension} {scope : Scope} {pos ip : Pos} {d : Nat} {it acc : Value} {env : Env} {body : Env → Sem Unit} (he : e = .ListComp elt gens scope pos)
    (htn : compTurn e d it acc env = cTurn t ip body e d it acc env) (ht : ∀ v, letOwnedTupleGo t it v = pure ()) (I : Nat → Shared → Prop)
    (turn : ∀ n s, I n s → wpAny (model prog w) A (pyNext it) (fun r s₁ => match r with
      | none => R (.ok .next) s₁
      | some v => wpAny (model prog w) A (assign t env v) (fun _ s₂ => wpAny (model prog w) A (body env) (fun _ s₄ => ∃ m, m < n ∧ I m s₄) (fun _ _ => False) s₂) (fun _ _ => False) s₁) (fun _ _ => False) s)
    (n : Nat) (h : I n s) : codeAny (model prog w) A (.compLoop e d it acc env) R s := by
  subst he
  refine codeAny_loop rfl I (fun n s hI => ?_) n h
  show wpAny _ _ ((compTurn (.ListComp elt gens scope pos) d it acc env).onRaise (fun x => do noteFrame x env; theTreesLotGoes x)) _ _ s
  refine wpAny_noted ?_
  rw [htn]
  unfold cTurn
  refine wpAny_bind (wpAny_standAt (wpAny_bind (wpAny_mono (turn n s hI) (fun r s₁ h₁ => ?_) fun _ _ f => f.elim)))
  cases r with
  | none => exact wpAny_pure h₁
  | some v =>
    refine wpAny_bind (wpAny_of_eq (ht v) ?_)
    exact wpAny_bind (wpAny_mono h₁ (fun _ s₂ h₂ => wpAny_bind (wpAny_mono h₂ (fun _ s₃ h₃ => wpAny_pure ⟨rfl, h₃⟩) fun _ _ f => f.elim)) fun _ _ f => f.elim)
theorem compStartG {e elt : Expr} {g : Comprehension} {gens : List Comprehension} {scope : Scope} {pos : Pos} {d : Nat} {it acc : Value} {env : Env} (he : e = .ListComp elt gens scope pos) (hg : gens[d]? = some g) (hga : g.is_async = 0)
    (h0 : codeAny (model prog w) A (.compLoop e d it acc env) R s)
    (h : wpAny (model prog w) A (pyIter it) (fun it' s' => codeAny (model prog w) A (.compLoop e d it' acc env) R s') (fun _ _ => False) s) :
    codeAny (model prog w) A (.compStart e d it acc env) R s := by
  subst he
  refine codeAny_of_tree ?_
  show wpAny _ _ ((compStart (.ListComp elt gens scope pos) d it acc env).onRaise (fun x => do noteFrame x env; standAt theWindowsPlace)) _ _ s
  refine wpAny_notedAt ?_
  unfold compStart
  rw [show clausesOf (.ListComp elt gens scope pos) = gens from rfl, hg]
  simp only [Option.elim, hga]
  refine wpAny_bind (wpAny_askSetting (wpAny_ite ?_))
  split
  · first
      | exact wpAny_bind (wpAny_pure (wpAny_pure (And.intro rfl h0)))
      | exact wpAny_pure (And.intro rfl h0)
  · first
      | exact wpAny_bind (wpAny_rule (wpAny_bind (wpAny_standAt (wpAny_bind (wpAny_mono h (fun it' s' h' => wpAny_pure (And.intro rfl h')) fun _ _ x => x.elim)))))
      | (refine wpAny_bind (wpAny_rule ?_); show wpAny _ _ (standAt g.iter.pos >>= _) _ _ s; exact wpAny_bind (wpAny_standAt (wpAny_bind (wpAny_mono h (fun it' s' h' => wpAny_pure (And.intro rfl h')) fun _ _ x => x.elim))))
end
end Mine
namespace Mine
section
variable {G : Heap → Prop} {own : Bool} {s₀ : Shared} {env : Env} {nk : List (Str × NameKind)} {ns cns : List Str} {vs cvs : List (Option Value)} {led : Led} {s : Shared}
variable {prog : Program} {w : World} {A : Around} {E : Value → Shared → Prop} {R : Result → Shared → Prop}

/-- a comprehension's clause over a range, its frame told -/
theorem compLoopR {e elt : Expr} {gens : List Comprehension} {scope : Scope} {pos ip px : Pos} {d : Nat} {acc : Value} {x : Str} {body : Env → Sem Unit} {hid : Led} (he : e = .ListComp elt gens scope pos) (hE : EnvIs env nk) (hx : nk.lookup x = some .local) (hh : A.handled = none)
    {I : Addr} (htn : compTurn e d (.ref I) acc env = cTurn (.Name x px) ip body e d (.ref I) acc env) {a : Int} {n : Nat}
    (H : FS G true s₀ env ns vs cns cvs (led ++ (I, RIt a n 1) :: hid) s) (J : Nat → List (Option Value) → Led → Prop) (h0 : J 0 vs led)
    (turn : ∀ i t vs₁ led₁, i < n → J i vs₁ led₁ → ∃ vs₂, Put ns vs₁ x (.int (a + (i : Int)) t) vs₂ ∧ ∀ hid' s₂, FS G true s₀ env ns vs₂ cns cvs (led₁ ++ hid') s₂ →
      wpAny (model prog w) A (body env) (fun _ s₃ => ∃ vs₃ led₃, J (i + 1) vs₃ led₃ ∧ FS G true s₀ env ns vs₃ cns cvs (led₃ ++ hid') s₃) (fun _ _ => False) s₂)
    (hR : ∀ vs' led' s', J n vs' led' → FS G true s₀ env ns vs' cns cvs (led' ++ hid) s' → R (.ok .next) s') :
    codeAny (model prog w) A (.compLoop e d (.ref I) acc env) R s := by
  have W := Walks.range (prog := prog) (w := w) (A := A) hh I a 1 n
  refine compLoopG he htn (fun _ => rfl) (fun k s' => ∃ i vs' led', i ≤ n ∧ k = n + 1 - i ∧ J i vs' led' ∧ FS G true s₀ env ns vs' cns cvs (led' ++ (I, RIt (a + (i : Int) * 1) ((n : Int) - (i : Int)) 1) :: hid) s') ?_ (n + 1)
    ⟨0, vs, led, Nat.zero_le _, rfl, h0, by simpa using H⟩
  rintro k s' ⟨i, vs', led', hi, rfl, hJ, H'⟩
  have hit : IsRangeIter s'.heap I (a + (i : Int) * 1) ((n : Int) - (i : Int)) 1 := by
    obtain ⟨⟨o, ho, e⟩, _⟩ := H'.has (I, RIt (a + (i : Int) * 1) ((n : Int) - (i : Int)) 1) (by simp)
    unfold RIt at e
    rw [e] at ho; exact ho
  by_cases hlt : i < n
  · refine W.item i s' _ _ hlt hit fun v h' tk hv hst hk => ?_
    obtain ⟨t, rfl⟩ := hv
    have H2 := H'.setMid (h' := h') (n := tk) (P' := RIt (a + ((i + 1 : Nat) : Int) * 1) ((n : Int) - ((i + 1 : Nat) : Int)) 1) (fun b o hb e => hk b o (by simpa using hb) e) ⟨_, hst, rfl⟩
    obtain ⟨vs₂, hp, hb⟩ := turn i t vs' led' hlt hJ
    rw [Int.mul_one]
    refine wpAny_assign_Name (stL H2 hE hp hx fun s₂ H3 => ?_)
    refine wpAny_mono (hb _ s₂ H3) (fun f s₃ h₃ => ?_) fun _ _ f => f.elim
    obtain ⟨vs₃, led₃, hJ₃, H4⟩ := h₃
    exact ⟨n + 1 - (i + 1), by omega, i + 1, vs₃, led₃, hlt, rfl, hJ₃, H4⟩
  · have hin : i = n := by omega
    subst hin
    refine W.done s' _ _ hit fun h' tk hk => ?_
    exact hR vs' led' _ hJ (H'.dropMid fun b o hb e => hk b o (by simpa using hb) e)
theorem flat_snoc (f : Nat → List Int) (n : Nat) : (((List.range (n + 1)).map f).flatten) = ((List.range n).map f).flatten ++ f n := by
  rw [List.range_succ, List.map_append, List.flatten_append]; simp
theorem ints_snoc : ∀ {xs : List Value} {ms : List Int}, IntsAre xs ms → ∀ (m : Int) (t : Tok), IntsAre (xs ++ [.int m t]) (ms ++ [m])
  | _, _, .nil, m, t => .cons m t .nil
  | _, _, .cons n u r, m, t => .cons n u (ints_snoc r m t)

end
end Mine
namespace Mine
/-- the cells that a def or a comprehension takes along -/
def clOf (cells : Str → Option Addr) : List (Str × NameKind) → List (Str × Addr) → Option (List (Str × Addr))
  | [], cs => some cs
  | (x, k) :: r, cs => if (k == .free) = true then (match cells x with | some c => clOf cells r ((x, c) :: cs) | none => none) else clOf cells r cs
theorem closureFor_go {env : Env} : ∀ (l : List (Str × NameKind)) (cs cl : List (Str × Addr)), clOf (fun x => env.cells.lookup x) l cs = some cl →
    (forIn (m := Sem) l cs fun (x : Str × NameKind) (r : List (Str × Addr)) => if (x.2 == .free) = true then do let c ← cellOf env x.1; pure (ForInStep.yield ((x.1, c) :: r)) else pure (ForInStep.yield r)) = pure cl
  | [], cs, cl, h => by simp [clOf] at h; subst h; rfl
  | (x, k) :: r, cs, cl, h => by
    unfold clOf at h
    rw [List.forIn_cons]
    by_cases hk : (k == NameKind.free) = true
    · rw [if_pos hk] at h
      simp only [hk, if_true]
      split at h
      · rename_i c hc
        unfold cellOf
        rw [hc]
        simp only [pure_bind]
        exact closureFor_go r _ cl h
      · cases h
    · rw [if_neg hk] at h
      simp only [hk, if_false]
      simp only [Bool.false_eq_true, if_false, pure_bind]
      exact closureFor_go r _ cl h
theorem closureFor_is {scope : Scope} {env : Env} {cl : List (Str × Addr)} (h : clOf (fun x => env.cells.lookup x) scope.names [] = some cl) : closureFor scope env = pure cl := by
  have := closureFor_go scope.names [] cl h
  unfold closureFor
  first
    | exact this
    | (simp only [bind_pure]; exact this)
theorem lookup_one {x y : Str} {a c : Addr} (h : List.lookup y [(x, a)] = some c) : y = x ∧ c = a := by
  rw [List.lookup_cons] at h
  split at h
  · rename_i e; exact ⟨eq_of_beq e, by cases h; rfl⟩
  · cases h
theorem inj_one {x : Str} {a : Addr} : ∀ y z c, List.lookup y [(x, a)] = some c → List.lookup z [(x, a)] = some c → y = z := fun y z c h1 h2 => (lookup_one h1).1.trans (lookup_one h2).1.symm
section
variable {G : Heap → Prop} {own : Bool} {s₀ : Shared} {env : Env} {nk : List (Str × NameKind)} {ns cns : List Str} {vs cvs : List (Option Value)} {led : Led} {s : Shared}
theorem FS.ex (H : FS G own s₀ env ns vs cns cvs led s) (P : Led → Prop) (hp : P led) : ∃ L, P L ∧ FS G own s₀ env ns vs cns cvs L s := ⟨led, hp, H⟩
theorem FS.nil (H : FS G own s₀ env ns vs cns cvs led s) : FS G own s₀ env ns vs cns cvs (led ++ []) s := by rw [List.append_nil]; exact H
theorem FS.cell (H : FS G own s₀ env ns vs cns cvs led s) {x : Str} {v : Value} (a : At cns cvs x v) : ∃ c, env.cells.lookup x = some c ∧ s.heap.IsCell c (some v) := by
  obtain ⟨c, h1, h2, _⟩ := H.cells x _ a.o; exact ⟨c, h1, h2⟩
end
section
variable {M : Model} {A : Around} {E : Value → Shared → Prop} {s : Shared} {env : Env} {nk : List (Str × NameKind)}
theorem wpE {α : Type} {t : Sem α} {Q : α → Shared → Prop} (h : wpAny M A t Q (fun _ _ => False) s) : wpAny M A t Q E s := wpAny_mono h (fun _ _ q => q) fun _ _ f => f.elim
end
end Mine
namespace Mine
theorem goodTrue {c : ClaimW} {cl : Str → Option Addr} {mean : ExcName → Option Value} {args : List WData} {s₁ s' : Shared} (k : Keeps s₁ s') (hg : s₁.gens = #[]) (hn : ∀ cls, c.raises args cls = false) (hp : c.post args (.bool true) args = true) :
    GoodW c cl mean args s₁ (.ok (.ret (.bool true))) s' := by
  obtain ⟨h, tk, rfl, kk⟩ := k
  exact ⟨.inl ⟨.bool true, .bool true, [], rfl, hn, .bool true, hp, unshared_nil⟩, kk, rfl, hg⟩
theorem at_none : ∀ {ns : List Str} {x : Str} {v : Value}, At ns (ns.map fun _ => none) x v → False
  | _ :: _, _, _, .tail a => at_none a
end Mine
namespace Mine
section
variable {G : Heap → Prop} {own : Bool} {s₀ : Shared} {env : Env} {nk : List (Str × NameKind)} {ns cns : List Str} {vs cvs : List (Option Value)} {led : Led} {s : Shared}
variable {prog : Program} {w : World} {A : Around} {E : Value → Shared → Prop}
/-- a free name -/
theorem nmF {M : Model} (H : FS G own s₀ env ns vs cns cvs led s) (hE : EnvIs env nk) {x : Str} {pos : Pos} {v : Value} {Q : Value → Shared → Prop} {c : Addr} (hc : env.cells.lookup x = some c) (hv : s₀.heap.IsCell c (some v)) (hk : nk.lookup x = some .free) (h : Q v s)
    (hn : (x == ("__classdict__" : Str)) = false := by decide) : wpAny M A (eval (.Name x pos) env) Q E s :=
  wpAny_Name (wpAny_loadName_free hE.kind (hE.of hk) hc (let ⟨o, h1, h2⟩ := hv; ⟨o, H.keep _ _ h1, h2⟩) h hn) (hE.nd hk)
/-- a chain of two comparisons -/
theorem cmp2 {M : Model} {l r1 r2 : Expr} {op1 op2 : CmpOp} {pos : Pos} {whole : Sem Value} {Q : Bool → Shared → Prop}
    (h : wpAny M A (eval l env) (fun a s₁ => wpAny M A (eval r1 env) (fun b s₂ => wpAny M A (compareOp op1 a b) (fun c s₃ => wpAny M A (truthy c) (fun t s₄ =>
      if t = true then wpAny M A (eval r2 env) (fun d s₅ => wpAny M A (compareOp op2 b d) (fun e s₆ => wpAny M A (truthy e) Q E s₆) E s₅) E s₄ else Q false s₄) E s₃) E s₂) E s₁) E s)
    (hm : markedEach [op1, op2] [r1, r2] (evalEach [r1, r2] env) = [eval r1 env, eval r2 env] := by with_unfolding_all rfl) :
    wpAny M A (isTrue (.Compare l [op1, op2] [r1, r2] pos) env whole) Q E s := by
  rw [arm_isTrue_Compare, hm]
  refine wpAny_bind (wpAny_mono h (fun a s₁ h₁ => ?_) fun _ _ x => x)
  unfold testChain
  refine wpAny_bind (wpAny_holding (wpAny_mono h₁ (fun b s₂ h₂ => ?_) fun _ _ x => x))
  refine wpAny_bind (wpAny_standAt (wpAny_bind (wpAny_holding (wpAny_mono h₂ (fun c s₃ h₃ => ?_) fun _ _ x => x))))
  refine wpAny_bind (wpAny_release ?_)
  refine wpAny_bind (wpAny_holding (wpAny_mono h₃ (fun t s₄ h₄ => ?_) fun _ _ x => x))
  cases t with
  | true =>
    simp only [if_true] at h₄ ⊢
    unfold testChain
    refine wpAny_bind (wpAny_holding (wpAny_mono h₄ (fun d s₅ h₅ => ?_) fun _ _ x => x))
    refine wpAny_bind (wpAny_standAt (wpAny_bind (wpAny_operating (wpAny_mono h₅ (fun e s₆ h₆ => ?_) fun _ _ x => x))))
    exact wpAny_holding h₆
  | false =>
    simp only [Bool.false_eq_true, if_false] at h₄ ⊢
    exact wpAny_pure h₄
theorem args_max4 (a b c d : Value) : argsOk "max" ⟨[a, b, c, d], []⟩ := by unfold argsOk; kernel_rfl
theorem call_max4 {a b c d : Value} {Q : Value → Shared → Prop}
    (h : wpAny (model prog w) A.in1 (pyIter (.ref s.heap.objs.size)) (fun it s₂ => ∃ I fp wr n P St bt, it = .ref I ∧ Walks prog w A.in1 I fp wr n P St ∧ St 0 s₂.heap ∧ (∀ b ∈ fp, b < s₂.heap.objs.size) ∧ 0 < n ∧ CmpOf prog w A.in1 .Gt P bt ∧
      ∀ v h' tk, P (argBest bt (n - 1)) v → (∀ b o, b ∉ wr → s₂.heap.get? b = some o → h'.get? b = some o) → Q v { s₂ with heap := h', toks := tk }) E
      { s with heap := s.heap.push { cls := .type "tuple", data := .seq #[a, b, c, d] } }) :
    wpAny (model prog w) A (call (.builtin "max") [a, b, c, d]) Q E s := by
  have hname : (toString "max" ++ toString ".loop" : String) = "max.loop" := by decide
  refine call_function_tree F.kind_max F.plain_max F.entry_max (args_max4 _ _ _ _) ?_
  show wpAny _ A.in1 (Builtin.Builtins.bindParams "max" ["key", "default"] 0 ⟨[], []⟩ >>= _) _ _ s
  refine wpAny_bind (wpAny_of_eq (show Builtin.Builtins.bindParams "max" ["key", "default"] 0 ⟨[], []⟩ = pure [none, none] from rfl) ?_)
  show wpAny _ A.in1 (newTuple [a, b, c, d] >>= _) _ _ s
  refine wpAny_bind (wpAny_newObj_type ?_)
  refine wpAny_bind (wpAny_mono h (fun it s₂ h₂ => ?_) fun _ _ e => e)
  obtain ⟨I, fp, wr, n, P, St, bt, rfl, W, hst, hfp, hn, hcmp, hQ⟩ := h₂
  refine wpAny_bind (wpAny_newObj_type ?_)
  have hSf : s₂.heap.objs.size ∉ fp := fun hm => Nat.lt_irrefl _ (hfp _ hm)
  rw [hname]
  refine wpAny_pure ⟨plainId_quiet F.plain_max_loop _, codeAny_max_loop_first W bt hcmp s₂.heap.objs.size hSf hn (W.frame _ _ _ hst fun b _ o e => Heap.get?_push_of_some _ e) (Heap.get?_push_size _ rfl) fun v h' tk hP hk => ?_⟩
  exact hQ v h' tk hP fun b o hbw e => hk b o hbw (Nat.ne_of_lt (Heap.lt_size e)) (Heap.get?_push_of_some _ e)
theorem best4 (a b c d : Int) (t u x y : Tok) : numAt #[(a, t), (b, u), (c, x), (d, y)] (argBest (fun i j => decide (numAt #[(a, t), (b, u), (c, x), (d, y)] i > numAt #[(a, t), (b, u), (c, x), (d, y)] j)) 3) = max (max (max a b) c) d := by
  have e0 : numAt #[(a, t), (b, u), (c, x), (d, y)] 0 = a := rfl
  have e1 : numAt #[(a, t), (b, u), (c, x), (d, y)] 1 = b := rfl
  have e2 : numAt #[(a, t), (b, u), (c, x), (d, y)] 2 = c := rfl
  have e3 : numAt #[(a, t), (b, u), (c, x), (d, y)] 3 = d := rfl
  generalize numAt #[(a, t), (b, u), (c, x), (d, y)] = f at *
  have h1 : f (argBest (fun i j => decide (f i > f j)) 1) = max a b := by
    simp only [argBest]
    by_cases h : f (0 + 1) > f 0
    · simp only [h, decide_true, if_true]
      rw [Nat.zero_add] at h ⊢; omega
    · simp only [h, decide_false, Bool.false_eq_true, if_false]
      rw [Nat.zero_add] at h; omega
  have h2 : f (argBest (fun i j => decide (f i > f j)) 2) = max (max a b) c := by
    rw [argBest]
    by_cases h : f (1 + 1) > f (argBest (fun i j => decide (f i > f j)) 1)
    · simp only [h, decide_true, if_true]
      rw [h1] at h
      simp only [Nat.reduceAdd] at h ⊢; omega
    · simp only [h, decide_false, Bool.false_eq_true, if_false]
      rw [h1] at h
      simp only [Nat.reduceAdd] at h
      rw [h1]; omega
  rw [argBest]
  by_cases h : f (2 + 1) > f (argBest (fun i j => decide (f i > f j)) 2)
  · simp only [h, decide_true, if_true]
    rw [h2] at h
    simp only [Nat.reduceAdd] at h ⊢; omega
  · simp only [h, decide_false, Bool.false_eq_true, if_false]
    rw [h2] at h
    simp only [Nat.reduceAdd] at h
    rw [h2]; omega
theorem max4 (H : FS G own s₀ env ns vs cns cvs led s) {a b c d : Int} {t u x y : Tok} {Q : Value → Shared → Prop} (hh : A.handled = none) (hq : ∀ t s', FS G own s₀ env ns vs cns cvs led s' → Q (.int (max (max (max a b) c) d) t) s') :
    wpAny (model prog w) A (call (.builtin "max") [.int a t, .int b u, .int c x, .int d y]) Q E s := by
  have hT : (s.heap.push { cls := .type "tuple", data := .seq #[.int a t, .int b u, .int c x, .int d y] }).IsTuple s.heap.objs.size (intItems #[(a, t), (b, u), (c, x), (d, y)]) := ⟨_, Heap.get?_push_size _ rfl, rfl, 0, by simp [intItems]⟩
  refine call_max4 (wpAny_pyIter_tuple hT ?_)
  have hsz : (s.heap.push { cls := .type "tuple", data := .seq #[.int a t, .int b u, .int c x, .int d y] }).objs.size = s.heap.objs.size + 1 := Heap.size_push ..
  refine ⟨_, [_, s.heap.objs.size], [_], _, _, _, _, rfl, Walks.tuple (A := A.in1) hh _ s.heap.objs.size (by rw [hsz]; exact Nat.ne_of_lt (Nat.lt_succ_self _)) (intItems #[(a, t), (b, u), (c, x), (d, y)]),
    ⟨⟨_, Heap.get?_push_size _ rfl, rfl, rfl⟩, hT.push _⟩, fun d hd => ?_, by simp [intItems], CmpOf.ints_gt (numAt #[(a, t), (b, u), (c, x), (d, y)]) (fun _ _ => intItems_at), fun v h' tk hP hk => ?_⟩
  · show d < ((s.heap.push _).push _).objs.size
    rw [Heap.size_push, hsz]
    rcases List.mem_cons.mp hd with rfl | hd
    · rw [hsz]; exact Nat.lt_succ_self _
    · rcases List.mem_cons.mp hd with rfl | hd
      · exact Nat.lt_succ_of_lt (Nat.lt_succ_self _)
      · cases hd
  · have hold : ∀ d o, s.heap.get? d = some o → h'.get? d = some o := fun d o e => by
      refine hk d o (fun hm => ?_) (Heap.get?_push_of_some _ (Heap.get?_push_of_some _ e))
      rcases List.mem_cons.mp hm with e1 | hm
      · have := Heap.lt_size e; rw [e1, hsz] at this; exact Nat.lt_irrefl _ (Nat.lt_of_succ_lt this)
      · cases hm
    have hP' : (intItems #[(a, t), (b, u), (c, x), (d, y)])[argBest (fun i j => decide (numAt #[(a, t), (b, u), (c, x), (d, y)] i > numAt #[(a, t), (b, u), (c, x), (d, y)] j)) 3]? = some v := by
      have hsz2 : (intItems #[(a, t), (b, u), (c, x), (d, y)]).size - 1 = 3 := by simp [intItems]
      rw [← hsz2]; exact hP
    obtain ⟨tk2, rfl⟩ := intItems_at hP'
    rw [best4]
    exact hq tk2 _ (H.keeps ⟨h', tk, rfl, hold⟩)
end
end Mine
namespace Mine
section
variable {G : Heap → Prop} {own : Bool} {s₀ : Shared} {env : Env} {nk : List (Str × NameKind)} {ns cns : List Str} {vs cvs : List (Option Value)} {led : Led} {s : Shared}
variable {prog : Program} {w : World} {A : Around} {E : Value → Shared → Prop} {R : Result → Shared → Prop}

theorem appMid {l1 l2 : Led} {a : Addr} {xs : List Value} {v : Value} {Q : Value → Shared → Prop} (H : FS G true s₀ env ns vs cns cvs (l1 ++ (a, PlO xs) :: l2) s) (hsz : xs.length ≤ 5000)
    (h : ∀ s', FS G true s₀ env ns vs cns cvs (l1 ++ (a, PlO (xs ++ [v])) :: l2) s' → Q .none s') :
    wpAny (model prog w) A (call (.builtin "list.append") [.ref a, v]) Q E s := by
  obtain ⟨⟨o, ho, n, rfl⟩, _⟩ := H.has (a, PlO xs) (by simp)
  refine wpAny_list_append_plain (items := xs.toArray) ⟨n, ho⟩ (fun h' hl' hs => h _ (H.setMid (fun b o hb e => (hs.2 b hb).trans e) ?_)) (by simp; rw [sizeLine_eq]; omega)
  obtain ⟨n', e⟩ := hl'
  exact ⟨_, e, n', by simp⟩

/-- a comprehension's clause over a list, its frame told -/
theorem compLoopL {e elt : Expr} {gens : List Comprehension} {scope : Scope} {pos ip px : Pos} {d : Nat} {acc : Value} {x : Str} {body : Env → Sem Unit} {hid : Led} (he : e = .ListComp elt gens scope pos) (hE : EnvIs env nk) (hx : nk.lookup x = some .local) (hh : A.handled = none)
    {I l : Addr} (htn : compTurn e d (.ref I) acc env = cTurn (.Name x px) ip body e d (.ref I) acc env) {xs : List Value} (hne : l ≠ I)
    (hl : ∀ i vs₁ led₁ s₁, FS G true s₀ env ns vs₁ cns cvs (led₁ ++ (I, LIt l i) :: hid) s₁ → s₁.heap.IsList l xs.toArray)
    (H : FS G true s₀ env ns vs cns cvs (led ++ (I, LIt l 0) :: hid) s) (J : Nat → List (Option Value) → Led → Prop) (h0 : J 0 vs led)
    (turn : ∀ i v vs₁ led₁, xs[i]? = some v → J i vs₁ led₁ → ∃ vs₂, Put ns vs₁ x v vs₂ ∧ ∀ hid' s₂, FS G true s₀ env ns vs₂ cns cvs (led₁ ++ hid') s₂ →
      wpAny (model prog w) A (body env) (fun _ s₃ => ∃ vs₃ led₃, J (i + 1) vs₃ led₃ ∧ FS G true s₀ env ns vs₃ cns cvs (led₃ ++ hid') s₃) (fun _ _ => False) s₂)
    (hR : ∀ vs' led' s', J xs.length vs' led' → FS G true s₀ env ns vs' cns cvs (led' ++ hid) s' → R (.ok .next) s') :
    codeAny (model prog w) A (.compLoop e d (.ref I) acc env) R s := by
  have W := Walks.list (prog := prog) (w := w) (A := A) hh I l hne xs.toArray
  have hsz : xs.toArray.size = xs.length := by simp
  rw [hsz] at W
  refine compLoopG he htn (fun _ => rfl) (fun k s' => ∃ i vs' led', i ≤ xs.length ∧ k = xs.length + 1 - i ∧ J i vs' led' ∧ FS G true s₀ env ns vs' cns cvs (led' ++ (I, LIt l i) :: hid) s') ?_ (xs.length + 1)
    ⟨0, vs, led, Nat.zero_le _, rfl, h0, H⟩
  rintro k s' ⟨i, vs', led', hi, rfl, hJ, H'⟩
  have hit : s'.heap.IsListIter I l i ∧ s'.heap.IsList l xs.toArray := by
    obtain ⟨⟨o, ho, e⟩, _⟩ := H'.has (I, LIt l i) (by simp)
    exact ⟨⟨o, ho, e.1, e.2⟩, hl i vs' led' s' H'⟩
  by_cases hlt : i < xs.length
  · refine W.item i s' _ _ hlt hit fun v h' tk hv hst hk => ?_
    have H2 := H'.setMid (h' := h') (n := tk) (P' := LIt l (i + 1)) (fun b o hb e => hk b o (by simpa using hb) e) (by obtain ⟨o, ho, h1, h2⟩ := hst.1; exact ⟨o, ho, h1, h2⟩)
    obtain ⟨vs₂, hp, hb⟩ := turn i v vs' led' (by simpa using hv) hJ
    refine wpAny_assign_Name (stL H2 hE hp hx fun s₂ H3 => ?_)
    refine wpAny_mono (hb _ s₂ H3) (fun f s₃ h₃ => ?_) fun _ _ f => f.elim
    obtain ⟨vs₃, led₃, hJ₃, H4⟩ := h₃
    exact ⟨xs.length + 1 - (i + 1), by omega, i + 1, vs₃, led₃, hlt, rfl, hJ₃, H4⟩
  · have hin : i = xs.length := by omega
    subst hin
    refine W.done s' _ _ hit fun h' tk hk => ?_
    exact hR vs' led' _ hJ (H'.dropMid fun b o hb e => hk b o (by simpa using hb) e)

/-- a new frame of a comprehension, its list and its iterator made -/
theorem compNew (SG : Stable G) {xns : List Str} {s₁ : Shared} (H₁ : FS G own s₀ env ns vs cns cvs led s₁) {it : Obj} {scope : Scope} {cl : List (Str × Addr)} {P : Obj → Prop}
    (hcell : ∀ y ∈ scope.names, y.2 ≠ .cell) (hkind : scope.kind = .function) (hxns : xns.Nodup) (hinj : ∀ x y c, cl.lookup x = some c → cl.lookup y = some c → x = y) (hP : P it) (hfr : it.isFreed = false)
    {RR : Value → Addr → Shared → Prop}
    (h : ∀ D C s₂, D ≠ s₁.heap.objs.size → s₁.heap.get? C = none → FS G true s₁ (compEnvC scope cl C env) xns (xns.map fun _ => none) [] [] [(D, PlO []), (s₁.heap.objs.size, P)] s₂ → RR (.ref D) C s₂) :
    wpAny (model prog w) A (newList []) (fun acc s₃ => wpAny (model prog w) A (newFunctionEnv scope env.globals cl [] env.qual none .none (some env)) (fun cenv s₄ => { cenv with scope := relabel scope env } = compEnvC scope cl cenv.locals env ∧ RR acc cenv.locals s₄) E s₃) E { s₁ with heap := s₁.heap.push it } := by
  refine wpAny_newObj_type (wpAny_newFunctionEnv hcell (by intro y hy; simp at hy) (fun h₁ hns₁ hsb₁ => ?_) hkind)
  dsimp only at hns₁ hsb₁ ⊢
  generalize hH1 : s₁.heap.push it = H1 at hns₁ hsb₁ ⊢
  have hI1 : H1.objs.size = s₁.heap.objs.size + 1 := by rw [← hH1, Heap.size_push]
  generalize hH2 : H1.push { cls := .type "list", dict := none, data := .seq ([] : List Value).toArray } = H2 at hns₁ hsb₁ ⊢
  have hC : H2.objs.size = s₁.heap.objs.size + 2 := by rw [← hH2, Heap.size_push, hI1]
  generalize hI : s₁.heap.objs.size = I at *
  have fresh : ∀ b, I ≤ b → s₁.heap.get? b = none := fun b hb => Heap.get?_none_of_le (by rw [hI]; exact hb)
  have old : ∀ b o, s₁.heap.get? b = some o → h₁.get? b = some o := fun b o e => by
    have hb : b < I := by rw [← hI]; exact Heap.lt_size e
    exact hsb₁.extBut b o (hC ▸ Nat.ne_of_lt (Nat.lt_succ_of_lt (Nat.lt_succ_of_lt hb))) (Heap.get?_push_of_some _ (hH2 ▸ Heap.get?_push_of_some _ (hH1 ▸ Heap.get?_push_of_some _ e)))
  have hIo : h₁.get? I = some it := by
    refine hsb₁.extBut I _ (hC ▸ Nat.ne_of_lt (Nat.lt_succ_of_lt (Nat.lt_succ_self _))) (Heap.get?_push_of_some _ (hH2 ▸ Heap.get?_push_of_some _ (hH1 ▸ ?_)))
    have := Heap.get?_push_size s₁.heap (o := it) hfr
    rw [hI] at this; exact this
  have hDo : h₁.get? H1.objs.size = some { cls := .type "list", dict := none, data := .seq ([] : List Value).toArray } :=
    hsb₁.extBut _ _ (by rw [hC, hI1]; exact Nat.ne_of_lt (Nat.lt_succ_self _)) (Heap.get?_push_of_some _ (hH2 ▸ Heap.get?_push_size _ rfl))
  refine ⟨rfl, h _ _ _ (by rw [hI1]; exact Nat.succ_ne_self _) (fresh _ (hC ▸ Nat.le_add_right _ _)) ?_⟩
  refine ⟨⟨h₁, _, rfl⟩, old, H₁.gg SG, hxns, by simp, ⟨_, hns₁, fun y u au => (at_none au).elim⟩, fun y o ao => (by cases ao), hinj, fun p hp => ?_, ?_, fun _ => fresh _ (hC ▸ Nat.le_add_right _ _)⟩
  · simp only [List.mem_cons, List.not_mem_nil, or_false] at hp
    rcases hp with rfl | rfl
    · exact ⟨⟨_, hDo, 0, rfl⟩, by show H1.objs.size ≠ H2.objs.size; rw [hC, hI1]; exact Nat.ne_of_lt (Nat.lt_succ_self _), fresh _ (by show I ≤ H1.objs.size; rw [hI1]; exact Nat.le_succ _)⟩
    · exact ⟨⟨_, hIo, hP⟩, by show I ≠ H2.objs.size; rw [hC]; exact Nat.ne_of_lt (Nat.lt_succ_of_lt (Nat.lt_succ_self _)), fresh _ (Nat.le_refl _)⟩
  · simp only [List.pairwise_cons, List.mem_cons, List.not_mem_nil, or_false, List.Pairwise.nil, and_true, false_imp_iff, implies_true, forall_eq]
    show H1.objs.size ≠ I
    rw [hI1]; exact Nat.succ_ne_self _
end
end Mine
namespace Mine
/-- an object that is a namespace -/
def NsO : Obj → Prop := fun o => ∃ es ep, ∃ m : Str → Option Value, o.data = .dict es ep ∧ StrKeys es ∧ ∀ name, nsFind es name = m name
theorem cTurn_s (elt t0 i0 : Expr) (scope : Scope) (pos : Pos) (it acc : Value) (env : Env) :
    compTurn (.ListComp elt [⟨t0, i0, [], 0⟩] scope pos) 0 it acc env = cTurn t0 i0.pos (cEmit elt acc) (.ListComp elt [⟨t0, i0, [], 0⟩] scope pos) 0 it acc env := by rfl
section
variable {G : Heap → Prop} {own : Bool} {s₀ : Shared} {env : Env} {nk : List (Str × NameKind)} {ns cns : List Str} {vs cvs : List (Option Value)} {led : Led} {s : Shared}
variable {prog : Program} {w : World} {A : Around} {E : Value → Shared → Prop} {R : Result → Shared → Prop}

/-- the end of a comprehension whose list is bound at once -/
theorem compUse (hE : EnvIs env nk) {y : Str} {py : Pos} {s₁ s' : Shared} {cenv : Env} {xns : List Str} {xvs : List (Option Value)} {L : Led} {D : Addr} {vs' : List (Option Value)} {Q : Flow → Shared → Prop}
    (H₁ : FS G true s₀ env ns vs cns cvs led s₁) (H : FS G true s₁ cenv xns xvs [] [] L s') (hy : nk.lookup y = some .local) (hput : Put ns vs y (.ref D) vs')
    (hQ : ∀ s'', FS G true s₀ env ns vs' cns cvs (L ++ led) s'' → Q .next s'') :
    compPost (model prog w) A E (some (assign (.Name y py) env)) (fun _ s' => Q .next s') (.ref D) cenv.locals (.ok .next) s' := by
  show wpAny _ A (assign (.Name y py) env (.ref D)) _ _ _
  have hC0 : s₁.heap.get? cenv.locals = none := H.fresh rfl
  have N : NewLed s₁ s' ((cenv.locals, NsO) :: L) := by
    have N0 := H.newLed
    refine ⟨fun p hp => ?_, List.pairwise_cons.mpr ⟨fun p hp => Ne.symm (H.has p hp).2.1, N0.2⟩⟩
    rcases List.mem_cons.mp hp with rfl | hp
    · obtain ⟨m, ⟨o, es, ep, ho, hd, hk, hm⟩, _⟩ := H.vars
      exact ⟨⟨o, ho, es, ep, m, hd, hk, hm⟩, hC0⟩
    · exact N0.1 p hp
  have H2 := H₁.news H.kept N
  refine wpAny_assign_Name (stL H2 hE hput hy fun s₃ H3 => ?_)
  obtain ⟨⟨o, ho, es, ep, m, hd, hk, hm⟩, _⟩ := H3.has (cenv.locals, NsO) (by simp)
  refine ⟨m, ⟨o, es, ep, ho, hd, hk, hm⟩, fun h' hs' => hQ _ ?_⟩
  exact FS.dropMid (l1 := []) (n := s₃.toks) H3 (fun b o hb e => hs'.extBut b o hb e)
/-- the end of a comprehension that is a value -/
theorem compVal {s₁ s' : Shared} {cenv : Env} {xns : List Str} {xvs : List (Option Value)} {L : Led} {D : Addr} {Q : Value → Shared → Prop}
    (H₁ : FS G own s₀ env ns vs cns cvs led s₁) (H : FS G true s₁ cenv xns xvs [] [] L s')
    (hQ : ∀ s'', FS G own s₀ env ns vs cns cvs (L ++ led) s'' → Q (.ref D) s'') :
    compPost (model prog w) A E none Q (.ref D) cenv.locals (.ok .next) s' := by
  have hC0 : s₁.heap.get? cenv.locals = none := H.fresh rfl
  obtain ⟨m, hm, _⟩ := H.vars
  refine ⟨m, hm, fun h' hs' => hQ _ ?_⟩
  obtain ⟨h9, tk9, e9⟩ := H.same
  subst e9
  refine H₁.news (s' := { s₁ with heap := h', toks := tk9 }) ⟨h', tk9, rfl, fun b o e => hs'.extBut b o (by rintro rfl; rw [hC0] at e; cases e) (H.keep b o e)⟩ ⟨fun p hp => ?_, H.apart⟩
  obtain ⟨⟨o, ho, hP⟩, hne, hf⟩ := H.has p hp
  exact ⟨⟨o, hs'.extBut _ _ hne ho, hP⟩, hf⟩

/-- y = [.. for x in range(..)] -/
theorem exComp1R (SG : Stable G) (hE : EnvIs env nk) (hh : A.handled = none) {x y : Str} {px py : Pos} {elt i0 : Expr} {scope : Scope} {cl : List (Str × Addr)} {cpos pos : Pos} {Q : Flow → Shared → Prop} (H : FS G true s₀ env ns vs cns cvs led s)
    (hy : nk.lookup y = some .local) (vs' : Addr → List (Option Value)) (hput : ∀ D, Put ns vs y (.ref D) (vs' D)) (hline : (py.line == cpos.line) = true) (hyn : (scope.names.any fun (n, k) => n == y && (k == .local || k == .cell)) = false)
    (hclos : closureFor scope env = pure cl) (hcell : ∀ y ∈ scope.names, y.2 ≠ .cell) (hkind : scope.kind = .function)
    (hnames : ∀ y ∈ scope.names, y.2 = .local → scope.names.lookup y.1 = some .local) (hx : (compNames scope nk).lookup x = some .local)
    (hd : (compNames scope nk).lookup (Str.ofString "__debug__") = none) (hinj : ∀ x y c, cl.lookup x = some c → cl.lookup y = some c → x = y)
    (a : Int) (n : Nat) (J : Nat → List Value → Led → Prop) (hn : n ≤ 4000)
    (h0 : wpAny (model prog w) A (eval i0 env) (fun xv s₁ => FS G true s₀ env ns vs cns cvs led s₁ ∧ ∃ r b t1 t2 t3, xv = .ref r ∧ IsRange s₁.heap r a b 1 t1 t2 t3 ∧ Builtin.Range.small a b 1 = true ∧ Builtin.Range.rangeSize a b 1 = n) E s)
    (J0 : J 0 [] [])
    (turn : ∀ C s₁ (i : Nat) tk ys led' hid s₃, i < n → J i ys led' → FS G true s₀ env ns vs cns cvs led s₁ → FS G true s₁ (compEnvC scope cl C env) [x] [some (.int (a + (i : Int)) tk)] [] [] (led' ++ hid) s₃ →
      wpAny (model prog w) A (eval elt (compEnvC scope cl C env)) (fun v s₄ => ∃ led'', J (i + 1) (ys ++ [v]) led'' ∧ FS G true s₁ (compEnvC scope cl C env) [x] [some (.int (a + (i : Int)) tk)] [] [] (led'' ++ hid) s₄) (fun _ _ => False) s₃)
    (hQ : ∀ D ys led' s', J n ys led' → FS G true s₀ env ns (vs' D) cns cvs ((led' ++ [(D, PlO ys)]) ++ led) s' → Q .next s')
    (hs0 : ∀ x, foldedSetIterable i0 env x = pure x := by intro _; rfl) :
    wpAny (model prog w) A (exec (.Assign [.Name y py] (.ListComp elt [⟨.Name x px, i0, [], 0⟩] scope cpos) pos) env) Q E s := by
  have hsw : swapsWith (.ListComp elt [⟨.Name x px, i0, [], 0⟩] scope cpos) (some (.Name y py)) pos.line env = pure true := by
    have e := hE.of hy
    have hb : env.blockKind = .function := by unfold Env.blockKind; rw [hE.kind]; rfl
    unfold swapsWith
    simp only [e, hb, hyn]
    show pure (ScopeKind.function == ScopeKind.function && some NameKind.local == some NameKind.local && py.line == cpos.line && !false) = _
    rw [hline]
    rfl
  rw [exec_Assign_Name_used _ _ _ _ hsw]
  refine wpAny_bind (wpAny_standAt (wpAny_bind ?_))
  show wpAny _ A (do let _ ← comprehension (.ListComp elt [⟨.Name x px, i0, [], 0⟩] scope cpos) scope env _ (newList []) false (eval i0 env) (some (assign (.Name y py) env))) _ _ s
  refine wpAny_bind (wpAny_mono (wpAny_comprehension_free (use := some (assign (.Name y py) env)) (Q := fun _ s' => Q .next s') rfl hs0 hclos hkind hnames (wpAny_mono h0 (fun xv s₁ h₁ => ?_) fun _ _ e => e)) (fun _ s' q => wpAny_pure (wpAny_pure q)) fun _ _ e => e)
  obtain ⟨H₁, r, b, t1, t2, t3, rfl, hr, hsm, hrn⟩ := h₁
  refine wpAny_pyIter_range hr hsm ?_
  rw [hrn]
  refine wpAny_mono (compNew (P := RIt a n 1) (xns := [x]) SG H₁ (it := { cls := .type "range_iterator", data := .fields #[rawInt a, rawInt n, rawInt 1] }) (cl := cl) (scope := scope)
    (RR := fun acc C s₄ => codeAny (model prog w) A (.compStart (.ListComp elt [⟨.Name x px, i0, [], 0⟩] scope cpos) 0 (.ref s₁.heap.objs.size) acc (compEnvC scope cl C env)) (compPost (model prog w) A E (some (assign (.Name y py) env)) (fun _ s' => Q .next s') acc C) s₄)
    hcell hkind (by simp) hinj rfl rfl fun D C s₂ hDI hC0 H₂ => ?_) (fun acc s₃ h₃ => wpAny_mono h₃ (fun cenv s₄ h₄ => by rw [h₄.1]; exact h₄.2) fun _ _ x => x) fun _ _ x => x
  generalize s₁.heap.objs.size = I at *
  have hE' : EnvIs (compEnvC scope cl C env) (compNames scope nk) := compEnv_is hE hkind cl _ hd
  have W0 := Walks.range (prog := prog) (w := w) (A := A) hh I a 1 n
  have loop : codeAny (model prog w) A (.compLoop (.ListComp elt [⟨.Name x px, i0, [], 0⟩] scope cpos) 0 (.ref I) (.ref D) (compEnvC scope cl C env)) (compPost (model prog w) A E (some (assign (.Name y py) env)) (fun _ s' => Q .next s') (.ref D) C) s₂ := by
    refine compLoopR (led := [(D, PlO [])]) (hid := []) (px := px) rfl hE' hx hh (cTurn_s ..) H₂
      (fun i vs L => ∃ (ys : List Value) (led' : Led) (o : Option Value), vs = [o] ∧ L = led' ++ [(D, PlO ys)] ∧ J i ys led' ∧ ys.length = i) ⟨[], [], none, rfl, rfl, J0, rfl⟩ ?_ ?_
    · rintro i tk _ _ hi ⟨ys, led', o, rfl, rfl, hJ, hlen⟩
      refine ⟨[some (.int (a + (i : Int)) tk)], .head, fun hid' s₃ H₃ => ?_⟩
      rw [List.append_assoc] at H₃
      unfold cEmit
      refine wpAny_bind (wpAny_mono (turn C s₁ i tk ys led' _ s₃ hi hJ H₁ H₃) (fun v s₄ h₄ => ?_) fun _ _ f => f)
      obtain ⟨led'', hJ'', H₄⟩ := h₄
      refine wpAny_bind (appMid H₄ (by omega) fun s₅ H₅ => wpAny_pure ⟨_, led'' ++ [(D, PlO (ys ++ [v]))], ⟨_, led'', _, rfl, rfl, hJ'', by simp [hlen]⟩, by rw [List.append_assoc]; exact H₅⟩)
    · rintro _ _ s' ⟨ys, led', o, rfl, rfl, hJ, hlen⟩ H₃
      rw [List.append_nil] at H₃
      exact compUse (cenv := compEnvC scope cl C env) hE H₁ H₃ hy (hput D) fun s'' H'' => hQ D ys led' s'' hJ H''
  refine compStartG rfl rfl rfl loop (W0.self 0 _ _ _ ?_ loop)
  obtain ⟨⟨o, ho, e⟩, _⟩ := H₂.has (I, RIt a n 1) (by simp)
  unfold RIt at e
  rw [e] at ho
  simpa [IsRangeIter] using ho
end
end Mine
namespace Mine
section
variable {G : Heap → Prop} {own : Bool} {s₀ : Shared} {env : Env} {nk : List (Str × NameKind)} {ns cns : List Str} {vs cvs : List (Option Value)} {led : Led} {s : Shared}
variable {prog : Program} {w : World} {A : Around} {E : Value → Shared → Prop} {R : Result → Shared → Prop}
/-- [t for x in a list for t in a list] -/
theorem evComp2L (SG : Stable G) (hE : EnvIs env nk) (hh : A.handled = none) {x t : Str} {px pt pe : Pos} {i0 i1 : Expr} {scope : Scope} {cl : List (Str × Addr)} {pos : Pos} {Q : Value → Shared → Prop} (H : FS G own s₀ env ns vs cns cvs led s)
    (hclos : closureFor scope env = pure cl) (hcell : ∀ y ∈ scope.names, y.2 ≠ .cell) (hkind : scope.kind = .function)
    (hnames : ∀ y ∈ scope.names, y.2 = .local → scope.names.lookup y.1 = some .local) (hx : (compNames scope nk).lookup x = some .local) (ht : (compNames scope nk).lookup t = some .local) (hxt : x ≠ t)
    (hd : (compNames scope nk).lookup (Str.ofString "__debug__") = none) (hinj : ∀ x y c, cl.lookup x = some c → cl.lookup y = some c → x = y)
    (xs : List Value) (f : Nat → List Int) (hn : xs.length ≤ 40) (hf : ∀ i, i < xs.length → (f i).length ≤ 100)
    (h0 : wpAny (model prog w) A (eval i0 env) (fun xv s₁ => ∃ l, xv = .ref l ∧ FS G own s₀ env ns vs cns cvs ((l, PlO xs) :: led) s₁) E s)
    (h1 : ∀ C s₁ l (i : Nat) v o led' s₃, xs[i]? = some v → FS G own s₀ env ns vs cns cvs ((l, PlO xs) :: led) s₁ → FS G true s₁ (compEnvC scope cl C env) [x, t] [some v, o] [] [] led' s₃ →
      wpAny (model prog w) A (eval i1 (compEnvC scope cl C env)) (fun xv s₄ => ∃ l1 zs, xv = .ref l1 ∧ FS G true s₁ (compEnvC scope cl C env) [x, t] [some v, o] [] [] ((l1, PlO zs) :: led') s₄ ∧ IntsAre zs (f i)) (fun _ _ => False) s₃)
    (hQ : ∀ D ys l s', FS G own s₀ env ns vs cns cvs ([(D, PlO ys)] ++ (l, PlO xs) :: led) s' → IntsAre ys (((List.range xs.length).map f).flatten) → Q (.ref D) s')
    (hs0 : ∀ x, foldedSetIterable i0 env x = pure x := by intro _; rfl) (hs1 : ∀ C x, foldedSetIterable i1 (compEnvC scope cl C env) x = pure x := by intro _ _; rfl) :
    wpAny (model prog w) A (eval (.ListComp (.Name t pe) [⟨.Name x px, i0, [], 0⟩, ⟨.Name t pt, i1, [], 0⟩] scope pos) env) Q E s := by
  rw [eval_ListComp]
  refine wpAny_comprehension_free (use := none) rfl hs0 hclos hkind hnames (wpAny_mono h0 (fun xv s₁ h₁ => ?_) fun _ _ e => e)
  obtain ⟨l, rfl, H₁⟩ := h₁
  have hl1 : s₁.heap.IsList l xs.toArray := H₁.lstP List.mem_cons_self
  refine wpAny_pyIter_list hl1 ?_
  have hne : l ≠ s₁.heap.objs.size := by obtain ⟨o, ho, _⟩ := hl1; exact Nat.ne_of_lt (Heap.lt_size ho)
  refine wpAny_mono (compNew (P := LIt l 0) (xns := [x, t]) SG H₁ (it := { cls := .type "list_iterator", data := .fields #[.ref l, .int 0 0] }) (cl := cl) (scope := scope)
    (RR := fun acc C s₄ => codeAny (model prog w) A (.compStart (.ListComp (.Name t pe) [⟨.Name x px, i0, [], 0⟩, ⟨.Name t pt, i1, [], 0⟩] scope pos) 0 (.ref s₁.heap.objs.size) acc (compEnvC scope cl C env)) (compPost (model prog w) A E none Q acc C) s₄)
    hcell hkind (by simp [hxt]) hinj ⟨rfl, rfl⟩ rfl fun D C s₂ hDI hC0 H₂ => ?_) (fun acc s₃ h₃ => wpAny_mono h₃ (fun cenv s₄ h₄ => by rw [h₄.1]; exact h₄.2) fun _ _ x => x) fun _ _ x => x
  generalize s₁.heap.objs.size = I at *
  have hE' : EnvIs (compEnvC scope cl C env) (compNames scope nk) := compEnv_is hE hkind cl _ hd
  have W0 := Walks.list (prog := prog) (w := w) (A := A) hh I l hne xs.toArray
  have loop : codeAny (model prog w) A (.compLoop (.ListComp (.Name t pe) [⟨.Name x px, i0, [], 0⟩, ⟨.Name t pt, i1, [], 0⟩] scope pos) 0 (.ref I) (.ref D) (compEnvC scope cl C env)) (compPost (model prog w) A E none Q (.ref D) C) s₂ := by
    refine compLoopL (led := [(D, PlO [])]) (hid := []) (px := px) rfl hE' hx hh (cTurn_0 ..) hne (fun i vs₁ led₁ s' H' => H'.base hl1) H₂
      (fun i vs L => ∃ (o1 o2 : Option Value) (ys : List Value), vs = [o1, o2] ∧ L = [(D, PlO ys)] ∧ IntsAre ys (((List.range i).map f).flatten) ∧ ys.length ≤ 100 * i) ⟨none, none, [], rfl, rfl, .nil, Nat.zero_le _⟩ ?_ ?_
    · rintro i v _ _ hi ⟨o1, o2, ys, rfl, rfl, hys, hlen⟩
      have hlt : i < xs.length := (List.getElem?_eq_some_iff.mp hi).1
      refine ⟨[some v, o2], .head, fun hid' s₂ H₂ => ?_⟩
      unfold cInner
      refine wpAny_bind (wpAny_mono (h1 C s₁ l i v o2 _ s₂ hi H₁ H₂) (fun xv s₄ h₄ => ?_) fun _ _ f => f)
      obtain ⟨l1, zs, rfl, H₄, hzs⟩ := h₄
      have hfi := hf i hlt
      have hzl : zs.length = (f i).length := hzs.length
      refine wpAny_bind (wpAny_standAt (wpAny_bind (wpAny_of_eq (hs1 C _) (wpAny_bind (wpAny_holding ?_)))))
      have hl4 : s₄.heap.IsList l1 zs.toArray := H₄.lstP List.mem_cons_self
      refine wpAny_pyIter_list hl4 ?_
      have hne1 : l1 ≠ s₄.heap.objs.size := by obtain ⟨o, ho, _⟩ := hl4; exact Nat.ne_of_lt (Heap.lt_size ho)
      have H₅ := (H₄.new (a := s₄.heap.objs.size) (P := LIt l1 0) (keeps_push s₄ { cls := .type "list_iterator", data := .fields #[.ref l1, .int 0 0] } s₄.toks) (fresh_size _) ⟨_, Heap.get?_push_size _ rfl, rfl, rfl⟩).perm
        (List.perm_middle (l₁ := [(s₄.heap.objs.size, LIt l1 0), (l1, PlO zs)]) (a := (D, PlO ys)) (l₂ := hid'))
      have hI5 : (s₄.heap.push { cls := .type "list_iterator", data := .fields #[.ref l1, .int 0 0] }).IsListIter s₄.heap.objs.size l1 0 := ⟨_, Heap.get?_push_size _ rfl, rfl, rfl⟩
      have hl5 : (s₄.heap.push { cls := .type "list_iterator", data := .fields #[.ref l1, .int 0 0] }).IsList l1 zs.toArray := hl4.push _
      generalize hII : s₄.heap.objs.size = I' at *
      have W1 := Walks.list (prog := prog) (w := w) (A := A) hh I' l1 hne1 zs.toArray
      have loop1 : ∀ (Q' : Flow → Shared → Prop), (∀ o2 ys' s', FS G true s₁ (compEnvC scope cl C env) [x, t] [some v, o2] [] [] ([(D, PlO ys')] ++ (l1, PlO zs) :: hid') s' → IntsAre ys' (((List.range i).map f).flatten ++ f i) → ys'.length ≤ 100 * i + 100 → Q' .next s') →
          codeAny (model prog w) A (.compLoop (.ListComp (.Name t pe) [⟨.Name x px, i0, [], 0⟩, ⟨.Name t pt, i1, [], 0⟩] scope pos) 1 (.ref I') (.ref D) (compEnvC scope cl C env)) (fun r s' => match r with | .ok f => Q' f s' | .error e => cameBackBy (model prog w) A (compEnvC scope cl C env) (fun _ _ => False) e s') { s₄ with heap := s₄.heap.push { cls := .type "list_iterator", data := .fields #[.ref l1, .int 0 0] } } := fun Q' hQ' => by
        refine compLoopL (led := [(D, PlO ys)]) (hid := (l1, PlO zs) :: hid') (px := pt) rfl hE' ht hh (cTurn_1 ..) hne1 (fun i vs₁ led₁ s' H' => H'.lstP (xs := zs) (List.mem_append_right _ (List.mem_cons_of_mem _ List.mem_cons_self))) H₅
          (fun m vs led => ∃ (o2 : Option Value) (ys' : List Value), vs = [some v, o2] ∧ led = [(D, PlO ys')] ∧ IntsAre ys' (((List.range i).map f).flatten ++ (f i).take m) ∧ ys'.length ≤ 100 * i + m) ⟨o2, ys, rfl, rfl, by simpa using hys, by omega⟩ ?_ ?_
        · rintro m z _ _ hm ⟨o3, ys', rfl, rfl, hys', hlen'⟩
          have hmz : m < zs.length := (List.getElem?_eq_some_iff.mp hm).1
          obtain ⟨k, hk⟩ : ∃ k, (f i)[m]? = some k := ⟨(f i)[m]'(by omega), List.getElem?_eq_getElem (by omega)⟩
          obtain ⟨tk, ez⟩ := ints_get hzs hk
          rw [hm] at ez
          cases ez
          refine ⟨[some v, some (.int k tk)], .tail .head, fun hid'' s₆ H₆ => ?_⟩
          unfold cEmit
          refine wpAny_bind (nmL H₆ hE' (.tail .head) ht (wpAny_bind (appMid (l1 := []) H₆ (by omega) fun s₇ H₇ => wpAny_pure ?_)))
          exact ⟨_, [(D, PlO _)], ⟨_, _, rfl, rfl, by rw [List.take_add_one, hk, ← List.append_assoc]; exact ints_snoc hys' _ _, by simp; omega⟩, H₇⟩
        · rintro _ _ s' ⟨o3, ys', rfl, rfl, hys', hlen'⟩ H₇
          rw [hzl, List.take_length] at hys'
          exact hQ' _ _ _ H₇ hys' (by omega)
      have fin : ∀ o2 ys' s', FS G true s₁ (compEnvC scope cl C env) [x, t] [some v, o2] [] [] ([(D, PlO ys')] ++ (l1, PlO zs) :: hid') s' → IntsAre ys' (((List.range i).map f).flatten ++ f i) → ys'.length ≤ 100 * i + 100 →
          wpAny (model prog w) A (pure () : Sem Unit) (fun _ s₃ => ∃ vs₃ led₃, (∃ (o1 o2 : Option Value) (ys : List Value), vs₃ = [o1, o2] ∧ led₃ = [(D, PlO ys)] ∧ IntsAre ys (((List.range (i + 1)).map f).flatten) ∧ ys.length ≤ 100 * (i + 1)) ∧ FS G true s₁ (compEnvC scope cl C env) [x, t] vs₃ [] [] (led₃ ++ hid') s₃) (fun _ _ => False) s' := fun o2 ys' s' H₇ hys' hlen' =>
        wpAny_pure ⟨_, _, ⟨_, _, ys', rfl, rfl, by rw [flat_snoc]; exact hys', by omega⟩, H₇.sub (List.Sublist.cons_cons _ (List.sublist_cons_self _ _))⟩
      refine wpAny_bind (wpAny_runOwn (h := none) (compStartG (d := 1) rfl rfl rfl ?_ ?_))
      · exact loop1 _ fin
      · exact W1.self 0 _ _ _ ⟨hI5, hl5⟩ (loop1 _ fin)
    · rintro _ _ s' ⟨o1, o2, ys, rfl, rfl, hys, hlen⟩ H₅
      rw [List.append_nil] at H₅
      exact compVal (cenv := compEnvC scope cl C env) H₁ H₅ fun s'' H'' => hQ D ys l s'' H'' hys
  refine compStartG rfl rfl rfl loop (W0.self 0 _ _ _ ?_ loop)
  obtain ⟨⟨o, ho, e⟩, _⟩ := H₂.has (I, LIt l 0) (by simp)
  exact ⟨⟨o, ho, e.1, e.2⟩, H₂.base hl1⟩
end
end Mine
namespace Mine
theorem subc_nonneg' (x y : Nat) : 0 ≤ subc x y := by unfold subc; split <;> (try split) <;> decide
/-- the rows of _law_reaches, in the ledger -/
def RowsAre (refs : List Value) (led : Led) (n : Nat) (R : Nat → List Int) : Prop := refs.length = n ∧ led.length = n ∧ ∀ k, k < n → ∃ a xs p, refs[k]? = some (.ref a) ∧ led[k]? = some (a, p) ∧ (∀ o, p o → LstO xs o) ∧ IntsAre xs (R k)
theorem FS.back2 {G : Heap → Prop} {own : Bool} {s₀ : Shared} {env : Env} {ns cns : List Str} {vs cvs : List (Option Value)} {l hid : Led} {p q : Addr × (Obj → Prop)} {s : Shared} (H : FS G own s₀ env ns vs cns cvs (p :: q :: (l ++ hid)) s) :
    FS G own s₀ env ns vs cns cvs ((l ++ [p]) ++ hid) s := by
  rw [List.append_assoc]
  exact (H.sub (List.Sublist.cons_cons _ (List.sublist_cons_self _ _))).perm List.perm_middle.symm
theorem law_m (l : Nat) : ∃ m : Nat, 3 ≤ m ∧ m ≤ 4 ∧ 3 + Int.fmod (Int.fdiv (l : Int) 2) 2 = (m : Int) :=
  ⟨3 + l / 2 % 2, by omega, by omega, by rw [Int.fdiv_eq_ediv_of_nonneg _ (by decide), Int.fmod_eq_emod_of_nonneg _ (by decide)]; omega⟩
theorem law_n (l : Nat) : ∃ n : Nat, 3 ≤ n ∧ n ≤ 4 ∧ 4 - Int.fmod (Int.fdiv (l : Int) 4) 2 = (n : Int) :=
  ⟨4 - l / 4 % 2, by omega, by omega, by rw [Int.fdiv_eq_ediv_of_nonneg _ (by decide), Int.fmod_eq_emod_of_nonneg _ (by decide)]; omega⟩
theorem diag_lo (k : Int) : ∃ lo : Nat, (lo : Int) = max 0 (-k) ∧ 0 ≤ (lo : Int) + k := ⟨(max 0 (-k)).toNat, by omega, by omega⟩
theorem diag_lo4 {lo m a : Nat} {k : Int} (h : (lo : Int) = max 0 (-k)) (hk : k = (a : Int) - m) (hm : m ≤ 4) : lo ≤ 4 := by omega
theorem diag_hi {m n a : Nat} {k : Int} (hk : k = (a : Int) - m) (ha : a < m + n + 1) : ∃ hi : Nat, (hi : Int) = min (m : Int) ((n : Int) - k) + 1 ∧ (hi : Int) ≤ (m : Int) + 1 ∧ (hi : Int) + k ≤ (n : Int) + 1 := ⟨(min (m : Int) ((n : Int) - k) + 1).toNat, by omega, by omega, by omega⟩
theorem c_km {a m : Nat} {k : Int} (hk : k = (a : Int) - m) : k + (m : Int) = (a : Int) := by omega
theorem c_km' {a m : Nat} {k : Int} (hk : k = (a : Int) - m) : -(m : Int) + (a : Int) * 1 = k := by omega
theorem c_mod8 (a : Nat) : Int.fmod (a : Int) 8 = ((a % 8 : Nat) : Int) := by rw [Int.fmod_eq_emod_of_nonneg _ (by decide)]; omega
theorem n_1 {N U V : Nat} (h : N = U + V + 3) : N - 2 + 1 = N - 1 := by omega
theorem n_2 {N U V : Nat} (h : N = U + V + 3) : (((N - 1 : Nat) : Int) - 1).toNat = N - 2 := by omega
theorem n_3 {N U V : Nat} (h : N = U + V + 3) : N - 2 = U + V + 1 := by omega
theorem n_4 {N U V : Nat} (h : N = U + V + 3) : (U : Int) + (V : Int) + 2 = ((N - 1 : Nat) : Int) := by omega
theorem n_5 {N U V : Nat} (h : N = U + V + 3) : (U : Int) + (V : Int) + 3 = (N : Int) := by omega
theorem n_6 {N U V : Nat} (h : N = U + V + 3) (h1 : U ≤ 4) (h2 : V ≤ 4) : N ≤ 11 := by omega
theorem n_7 {N : Nat} {refs : List Value} (h : refs.length = N) (h2 : 2 ≤ N) : ((refs.drop 1).take (N - 2)).length = N - 2 := by rw [List.length_take, List.length_drop]; omega
theorem n_8 {N : Nat} (h : N ≤ 11) : -1000 ≤ ((N - 1 : Nat) : Int) ∧ ((N - 1 : Nat) : Int) ≤ 1000 := by omega
theorem c_1 (i : Nat) : 1 + (i : Int) * 1 = ((i + 1 : Nat) : Int) := by omega
theorem c_m1 (i : Nat) : ((i + 1 : Nat) : Int) - 1 = (i : Int) := by omega
theorem c_p1 (i : Nat) : ((i + 1 : Nat) : Int) + 1 = ((i + 2 : Nat) : Int) := by omega
theorem c_s1 (i : Nat) : (i : Int) + 1 = ((i + 1 : Nat) : Int) := by omega
theorem c_s2 (i : Nat) : (i : Int) + 2 = ((i + 2 : Nat) : Int) := by omega
theorem c_add (i j : Nat) : (i : Int) + (j : Int) = ((i + j : Nat) : Int) := by omega
theorem c_k1 {i U : Nat} {k : Int} (h : k = (i : Int) - (U : Int)) : ((i + 1 : Nat) : Int) - 1 - (U : Int) = k := by omega
theorem c_k0 {i U : Nat} {k : Int} (h : k = (i : Int) - (U : Int)) : (i : Int) - 1 - (U : Int) = k - 1 := by omega
theorem c_k2 {i U : Nat} {k : Int} (h : k = (i : Int) - (U : Int)) : ((i + 2 : Nat) : Int) - 1 - (U : Int) = k + 1 := by omega
theorem c_c (c : Nat) : ((c + 1 : Nat) : Int) - 2 = (c : Int) - 1 := by omega
theorem enD_lt {u v : List Nat} {k : Int} {p j : Nat} (h : (p : Int) < enD u v k) (hj : (j : Int) = (p : Int) + k) : p < u.length ∧ j < v.length := by
  unfold enD at h; omega
theorem enD_ge {u v : List Nat} {k q : Int} {p j x y : Nat} (h : ¬ q < enD u v k) (hp : q = (p : Int)) (hj : (j : Int) = (p : Int) + k) (hx : u[p]? = some x) (hy : v[j]? = some y) : False := by
  have := (List.getElem?_eq_some_iff.mp hx).1
  have := (List.getElem?_eq_some_iff.mp hy).1
  unfold enD at h; omega
theorem idxN {prog : Program} {w : World} {A : Around} {E : Value → Shared → Prop} {s : Shared} {value slice : Expr} {a : Addr} {xs : List Value} {k : Nat} {t : Tok} {x : Value} {Q : Value → Shared → Prop} (hl : s.heap.IsList a xs.toArray) (hlen : xs.length ≤ 1000) (hx : xs[k]? = some x)
    (hs : subscripted slice false (.ref a) (.int (k : Int) t) = operate [.ref a, .int (k : Int) t] (getItem (.ref a) (.int (k : Int) t))) (h : Q x s) : wpAny (model prog w) A (subscriptTail value slice (.ref a) (.int (k : Int) t)) Q E s := by
  have := (List.getElem?_eq_some_iff.mp hx).1
  exact idxL hl (by omega) (by omega) (by rw [Int.toNat_natCast]; exact hx) hs h
theorem idxN' {prog : Program} {w : World} {A : Around} {E : Value → Shared → Prop} {s : Shared} {value slice : Expr} {a : Addr} {xs : List Value} {ms : List Int} {k : Nat} {t : Tok} {m : Int} {Q : Value → Shared → Prop} (hl : s.heap.IsList a xs.toArray) (hi : IntsAre xs ms) (hlen : xs.length ≤ 1000) (hx : ms[k]? = some m)
    (hs : subscripted slice false (.ref a) (.int (k : Int) t) = operate [.ref a, .int (k : Int) t] (getItem (.ref a) (.int (k : Int) t))) (h : ∀ u, Q (.int m u) s) : wpAny (model prog w) A (subscriptTail value slice (.ref a) (.int (k : Int) t)) Q E s := by
  have := (List.getElem?_eq_some_iff.mp hx).1
  have := hi.length
  exact idxL' hl hi (by omega) hx hs h
/-- so far they are told -/
def Done (u v : List Nat) (C N cost at0 : Nat) (R : Nat → List Int) : Prop := ∀ k, k < N → (R k).length = C + 2 ∧ ∀ idx, idx < C + 2 → (idx < cost + 2 ∨ (idx = cost + 2 ∧ k < at0) ∨ k = 0 ∨ k + 1 = N) → ∃ q, (R k)[idx]? = some q ∧ Rch subc u v ((k : Int) - 1 - u.length) ((idx : Int) - 2) q
theorem RowsAre.snoc {refs : List Value} {led : Led} {n : Nat} {R : Nat → List Int} (h : RowsAre refs led n R) {b : Addr} {xs : List Value} (hi : IntsAre xs (R n)) : RowsAre (refs ++ [.ref b]) (led ++ [(b, PlO xs)]) (n + 1) R := by
  obtain ⟨h1, h2, h3⟩ := h
  refine ⟨by simp [h1], by simp [h2], fun k hk => ?_⟩
  by_cases e : k < n
  · obtain ⟨a, xs, p, e1, e2, e3, e4⟩ := h3 k e
    exact ⟨a, xs, p, by rw [List.getElem?_append_left (by omega)]; exact e1, by rw [List.getElem?_append_left (by omega)]; exact e2, e3, e4⟩
  · have : k = n := by omega
    subst this
    exact ⟨b, xs, PlO xs, by rw [List.getElem?_append_right (by omega), h1]; simp, by rw [List.getElem?_append_right (by omega), h2]; simp, fun o ho => ho.lst, hi⟩
theorem RowsAre.set {refs : List Value} {led : Led} {n at0 idx : Nat} {R : Nat → List Int} {a : Addr} {xs : List Value} {q : Int} {t : Tok} (h : RowsAre refs led n R) (ha : at0 < n) (hr : refs[at0]? = some (.ref a)) (hi : IntsAre xs (R at0)) :
    RowsAre refs (led.set at0 (a, LstO (xs.set idx (.int q t)))) n (fun k => if k = at0 then (R at0).set idx q else R k) := by
  obtain ⟨h1, h2, h3⟩ := h
  refine ⟨h1, by simp [h2], fun k hk => ?_⟩
  by_cases e : k = at0
  · subst e
    exact ⟨a, xs.set idx (.int q t), LstO (xs.set idx (.int q t)), hr, by rw [List.getElem?_set]; simp [h2, ha], fun o ho => ho, by dsimp only; rw [if_pos rfl]; exact ints_set hi _ _ _⟩
  · obtain ⟨a', xs', p, e1, e2, e3, e4⟩ := h3 k hk
    exact ⟨a', xs', p, e1, by rw [List.getElem?_set, if_neg (fun q => e q.symm)]; exact e2, e3, by dsimp only; rw [if_neg e]; exact e4⟩
theorem Done.set {u v : List Nat} {C N cost at0 : Nat} {R : Nat → List Int} {q : Int} (h : Done u v C N cost at0 R) (ha : at0 < N) (hc : cost < C) (hq : Rch subc u v ((at0 : Int) - 1 - u.length) (cost : Int) q) (h0 : 0 < at0) (h1 : at0 + 1 < N) :
    Done u v C N cost (at0 + 1) (fun k => if k = at0 then (R at0).set (cost + 2) q else R k) := by
  intro k hk
  obtain ⟨g1, g2⟩ := h k hk
  by_cases e : k = at0
  · subst e
    dsimp only
    rw [if_pos rfl]
    refine ⟨by rw [List.length_set]; exact g1, fun idx hi hd => ?_⟩
    rw [List.getElem?_set]
    by_cases e2 : cost + 2 = idx
    · subst e2
      rw [if_pos rfl, if_pos (by omega)]
      exact ⟨q, rfl, by rw [show ((cost + 2 : Nat) : Int) - 2 = (cost : Int) by omega]; exact hq⟩
    · rw [if_neg e2]
      exact g2 idx hi (by omega)
  · dsimp only
    rw [if_neg e]
    exact ⟨g1, fun idx hi hd => g2 idx hi (by omega)⟩
theorem Done.next {u v : List Nat} {C N cost : Nat} {R : Nat → List Int} (h : Done u v C N cost (N - 1) R) : Done u v C N (cost + 1) 0 R := by
  intro k hk
  obtain ⟨g1, g2⟩ := h k hk
  exact ⟨g1, fun idx hi hd => g2 idx hi (by omega)⟩
theorem Done.zero {u v : List Nat} {C N : Nat} (hN : N = u.length + v.length + 3) : Done u v C N 0 0 (fun _ => List.replicate (C + 2) (-99)) := by
  intro k hk
  refine ⟨by simp, fun idx hi hd => ⟨-99, by rw [List.getElem?_replicate, if_pos hi], rch_none subc u v subc_nonneg' (by omega) ?_⟩⟩
  omega
theorem Done.one {u v : List Nat} {C N cost : Nat} {R : Nat → List Int} (h : Done u v C N cost 0 R) : Done u v C N cost 1 R := by
  intro k hk
  obtain ⟨g1, g2⟩ := h k hk
  exact ⟨g1, fun idx hi hd => g2 idx hi (by omega)⟩
theorem flat_get (f : Nat → List Int) (C : Nat) : ∀ (n : Nat), (∀ i, i < n → (f i).length = C) → ((List.range n).map f).flatten.length = n * C ∧ ∀ i e, i < n → e < C → ((List.range n).map f).flatten[i * C + e]? = (f i)[e]?
  | 0, _ => ⟨by simp, fun i e hi => by omega⟩
  | n + 1, h => by
    obtain ⟨h1, h2⟩ := flat_get f C n fun i hi => h i (by omega)
    rw [flat_snoc]
    refine ⟨by rw [List.length_append, h1, h n (by omega), Nat.succ_mul], fun i e hi he => ?_⟩
    by_cases hin : i < n
    · have : i * C + e < n * C := by
        have : (i + 1) * C ≤ n * C := Nat.mul_le_mul_right _ (by omega)
        rw [Nat.succ_mul] at this; omega
      rw [List.getElem?_append_left (by omega)]
      exact h2 i e hin he
    · have : i = n := by omega
      subst this
      rw [List.getElem?_append_right (by omega), h1, Nat.add_sub_cancel_left]
/-- what _law_reaches hands back -/
def ReachesAre (u v : List Nat) (C : Nat) (ms : List Int) : Prop := ms.length = (u.length + v.length + 1) * C ∧ ∀ a e, a < u.length + v.length + 1 → e < C → ∃ q, ms[a * C + e]? = some q ∧ Rch subc u v ((a : Int) - u.length) (e : Int) q
end Mine
namespace Mine
/-- a state, one object of it not seen -/
def hideS (P : Addr) (s : Shared) : Shared := { s with heap := hideAll s.heap [P] }
theorem hide_of {P : Addr} {h : Heap} {b : Addr} {o : Obj} (e : (hideAll h [P]).get? b = some o) : h.get? b = some o := of_hideAll _ e
theorem hide_ne {P : Addr} {h : Heap} {b : Addr} {o : Obj} (e : h.get? b = some o) (hb : b ≠ P) : (hideAll h [P]).get? b = some o := hideAll_get _ e (by simpa using hb)
theorem hide_none {P : Addr} {h : Heap} : (hideAll h [P]).get? P = none := hideAll_none _ (by simp)
theorem hide_fresh {P : Addr} {h : Heap} {b : Addr} (e : h.get? b = none) : (hideAll h [P]).get? b = none := by
  cases q : (hideAll h [P]).get? b with
  | none => rfl
  | some o => rw [hide_of q] at e; cases e
/-- a code's record -/
def CodeO (qual : Str) : Obj → Prop := fun o => ∃ vs t, o.data = .fields vs ∧ vs[1]? = some (.str qual t)
theorem CodeO.rec {qual : Str} {h : Heap} {c : Addr} (x : ∃ o, h.get? c = some o ∧ CodeO qual o) : h.CodeRec (.ref c) qual := by
  obtain ⟨o, h1, vs, t, h2, h3⟩ := x; exact ⟨c, o, vs, t, rfl, h1, h2, h3⟩
theorem CodeO.of {qual : Str} {h : Heap} {c : Addr} (x : h.CodeRec (.ref c) qual) : ∃ o, h.get? c = some o ∧ CodeO qual o := by
  obtain ⟨c', o, vs, t, e, h1, h2, h3⟩ := x; cases e; exact ⟨o, h1, vs, t, h2, h3⟩
/-- the table of codes, one made -/
def ps1 (pos : Pos) (c : Addr) : Array Value := #[rawInt pos.line, rawInt pos.col, .ref c]
section
variable {G : Heap → Prop} {own : Bool} {s₀ : Shared} {env : Env} {nk : List (Str × NameKind)} {ns cns : List Str} {vs cvs : List (Option Value)} {led : Led} {s : Shared}
variable {prog : Program} {w : World} {A : Around} {E : Value → Shared → Prop}
/-- the base with one object hidden, that is the frame's own then -/
theorem FS.ghost {P : Addr} {PP : Obj → Prop} (H : FS G true s₀ env ns vs cns cvs led s) (g : G (hideS P s₀).heap) (hp : ∃ o, s₀.heap.get? P = some o ∧ PP o) : FS G true (hideS P s₀) env ns vs cns cvs ((P, PP) :: led) s := by
  obtain ⟨oP, hoP, hPP⟩ := hp
  obtain ⟨h, tk, e⟩ := H.same
  refine ⟨⟨h, tk, by rw [e]; rfl⟩, fun b o e => H.keep b o (hide_of e), g, H.nd, H.cnd, H.vars, fun x o a => ?_, H.inj, fun p hp => ?_, ?_, fun e => hide_fresh (H.fresh e)⟩
  · obtain ⟨c, h1, h2, h3, h4, h5⟩ := H.cells x o a
    refine ⟨c, h1, h2, fun e => hide_fresh (h3 e), h4, fun p hp => ?_⟩
    rcases List.mem_cons.mp hp with rfl | hp
    · intro e; simp only at e; subst e; rw [h3 rfl] at hoP; cases hoP
    · exact h5 p hp
  · rcases List.mem_cons.mp hp with rfl | hp
    · refine ⟨⟨oP, H.keep _ _ hoP, hPP⟩, ?_, hide_none⟩
      intro e; simp only at e; rw [e, H.fresh rfl] at hoP; cases hoP
    · obtain ⟨h1, h2, h3⟩ := H.has p hp
      exact ⟨h1, h2, hide_fresh h3⟩
  · refine List.pairwise_cons.mpr ⟨fun p hp e => ?_, H.apart⟩
    have := (H.has p hp).2.2
    simp only at e
    rw [← e, hoP] at this; cases this
/-- what a call that turns the hidden object leaves -/
theorem keepsH {P : Addr} {s s' : Shared} (k : Keeps (hideS P s) s') : (∃ h tk, s' = { s with heap := h, toks := tk }) ∧ ∀ b o, b ≠ P → s.heap.get? b = some o → s'.heap.get? b = some o := by
  obtain ⟨h, tk, rfl, k⟩ := k
  exact ⟨⟨h, tk, rfl⟩, fun b o hb e => k b o (hide_ne e hb)⟩
theorem FS.stepP {P : Addr} {PP PP' : Obj → Prop} {s' : Shared} {l1 l2 : Led} (H : FS G own s₀ env ns vs cns cvs (l1 ++ (P, PP) :: l2) s) (k : Keeps (hideS P s) s') (hp : ∃ o, s'.heap.get? P = some o ∧ PP' o) : FS G own s₀ env ns vs cns cvs (l1 ++ (P, PP') :: l2) s' := by
  obtain ⟨⟨h, tk, rfl⟩, k⟩ := keepsH k
  exact H.setMid (fun b o hb e => k b o hb e) hp
/-- a new object beside -/
theorem FS.addF {led1 : Led} {s1 : Shared} {a : Addr} {PP : Obj → Prop} (H : FS G own s₀ env ns vs cns cvs led s) (H1 : FS G own s₀ env ns vs cns cvs led1 s1) (hle : ∀ p ∈ led1, ∃ q ∈ led, q.1 = p.1) (hf : s.heap.get? a = none) (hp : ∃ o, s1.heap.get? a = some o ∧ PP o) :
    FS G own s₀ env ns vs cns cvs ((a, PP) :: led1) s1 := by
  refine { H1 with cells := ?_, has := ?_, apart := ?_ }
  · intro x o b
    obtain ⟨c, h1, h2, h3, h4, h5⟩ := H1.cells x o b
    refine ⟨c, h1, h2, h3, h4, fun p hp => ?_⟩
    rcases List.mem_cons.mp hp with rfl | hp
    · obtain ⟨c', e, h2', _⟩ := H.cells x o b
      rw [h1] at e; cases e
      obtain ⟨oc, hoc, _⟩ := h2'
      intro e; subst e; rw [hf] at hoc; cases hoc
    · exact h5 p hp
  · intro p hq
    rcases List.mem_cons.mp hq with rfl | hq
    · refine ⟨hp, ?_, ?_⟩
      · obtain ⟨m, ⟨o, _, _, ho, _⟩, _⟩ := H.vars
        intro e; simp only at e; subst e; rw [hf] at ho; cases ho
      · cases e : s₀.heap.get? a with
        | none => rfl
        | some o => rw [H.keep a o e] at hf; cases hf
    · exact H1.has p hq
  · refine List.pairwise_cons.mpr ⟨fun y hy e => ?_, H1.apart⟩
    obtain ⟨q, hq, e2⟩ := hle y hy
    obtain ⟨⟨o, ho, _⟩, _⟩ := H.has q hq
    simp only at e
    rw [e2, ← e, hf] at ho; cases ho
/-- a function that lambda makes -/
def LamO (params : Arguments) (body : Expr) (scope : Scope) (clos : List (Str × Addr)) (qual : Str) (cv : Value) : Obj → Prop := fun o => ∃ pm ctv, o = { cls := .type "function", data := .func (kla_fn "<lambda>" qual params body scope clos pm cv ctv) }
theorem mkLam {P c bm : Addr} {ob : Obj} {mg : Str → Option Value} {params : Arguments} {body : Expr} {scope : Scope} {pos : Pos} {clos : List (Str × Addr)} {Q : Value → Shared → Prop} (H : FS G own s₀ env ns vs cns cvs ((P, fun o => o = tabObj #[]) :: led) s) (hE : EnvIs env nk) (hcode : env.code = .ref c)
    (hg : s₀.heap.Ns mainGlobals mg) (h2 : mg "__builtins__" = some (.ref bm)) (h3 : bm ≠ builtinsNs) (h4 : s₀.heap.get? bm = some ob) (h5 : ob.cls = .type "module") (h6 : ob.dict = some builtinsNs) (h7 : ob.data = .plain) (C : CodeHd s₀.heap c P)
    (hdef : defaultsOf params env = ([], [])) (hcl : closureFor scope env = pure clos)
    (h : ∀ f c' s', FS G own s₀ env ns vs cns cvs ((f, LamO params body scope clos (env.qual ++ "<lambda>") (.ref c')) :: (c', CodeO (env.qual ++ "<lambda>")) :: (P, fun o => o = tabObj (ps1 pos c')) :: led) s' → s.heap.get? c' = none → Q (.ref f) s') :
    wpAny (model prog w) A (eval (.Lambda params body scope pos) env) Q E s := by
  obtain ⟨⟨oP, hoP, rfl⟩, _, hP0⟩ := H.has (P, fun o => o = tabObj #[]) List.mem_cons_self
  simp only at hoP hP0
  have hgP : mainGlobals ≠ P := fun q => by obtain ⟨o, es, ep, e, _⟩ := hg; rw [q, hP0] at e; cases e
  have hbP : bm ≠ P := fun q => by rw [q, hP0] at h4; cases h4
  have hbG : bm ≠ mainGlobals := fun q => by
    obtain ⟨o, es, ep, e, hd, _⟩ := hg
    rw [q, e] at h4; cases h4; rw [hd] at h7; cases h7
  refine kla_eval hdef (kla_makeFunction (mg := mg) (ps := #[]) hcl hE.glob (hg.keeps H.keep) hcode (C.keeps H.keep) hoP trivial rfl hgP ⟨bm, ob, h2, h3, hbG, hbP, H.keep _ _ h4, h5, h6, h7⟩ fun c' ctv h' tk hx hge hlt hrec htb => ?_)
  have H1 : FS G own s₀ env ns vs cns cvs ((P, fun o => o = tabObj (ps1 pos c')) :: led) { s with heap := h', toks := tk } :=
    FS.setMid (l1 := []) H (fun b o hb e => hx b o hb e) ⟨_, htb, by simp [ps1]⟩
  have hc' : s.heap.get? c' = none := Heap.get?_none_of_le hge
  have H2 := H.addF H1 (PP := CodeO (env.qual ++ "<lambda>")) (a := c') (fun p hp => by
    rcases List.mem_cons.mp hp with rfl | hp
    · exact ⟨_, List.mem_cons_self, rfl⟩
    · exact ⟨p, List.mem_cons_of_mem _ hp, rfl⟩) hc' (CodeO.of hrec)
  exact h _ c' _ (H2.new (keeps_push _ _ _) (fresh_size _) ⟨_, Heap.get?_push_size _ rfl, _, _, rfl⟩) hc'
theorem mkLamHit {P c c' bm : Addr} {ob : Obj} {mg : Str → Option Value} {params : Arguments} {body : Expr} {scope : Scope} {pos : Pos} {clos : List (Str × Addr)} {Q : Value → Shared → Prop} (H : FS G own s₀ env ns vs cns cvs ((P, fun o => o = tabObj (ps1 pos c')) :: led) s) (hE : EnvIs env nk) (hcode : env.code = .ref c)
    (hg : s₀.heap.Ns mainGlobals mg) (h2 : mg "__builtins__" = some (.ref bm)) (h3 : bm ≠ builtinsNs) (h4 : s₀.heap.get? bm = some ob) (h5 : ob.cls = .type "module") (h6 : ob.dict = some builtinsNs) (h7 : ob.data = .plain) (C : CodeHd s₀.heap c P)
    (hdef : defaultsOf params env = ([], [])) (hcl : closureFor scope env = pure clos)
    (h : ∀ f s', FS G own s₀ env ns vs cns cvs ((f, LamO params body scope clos (env.qual ++ "<lambda>") (.ref c')) :: (P, fun o => o = tabObj (ps1 pos c')) :: led) s' → Q (.ref f) s') :
    wpAny (model prog w) A (eval (.Lambda params body scope pos) env) Q E s := by
  obtain ⟨⟨oP, hoP, rfl⟩, _, hP0⟩ := H.has (P, fun o => o = tabObj (ps1 pos c')) List.mem_cons_self
  simp only at hoP hP0
  have hgP : mainGlobals ≠ P := fun q => by obtain ⟨o, es, ep, e, _⟩ := hg; rw [q, hP0] at e; cases e
  have hbP : bm ≠ P := fun q => by rw [q, hP0] at h4; cases h4
  have hbG : bm ≠ mainGlobals := fun q => by
    obtain ⟨o, es, ep, e, hd, _⟩ := hg
    rw [q, e] at h4; cases h4; rw [hd] at h7; cases h7
  refine kla_eval hdef (kla_makeFunctionHit (mg := mg) (ps := ps1 pos c') (cv := .ref c') hcl hE.glob (hg.keeps H.keep) hcode (C.keeps H.keep) hoP (by simp [ps1, rawInt, TriplesOk]) (by simp [ps1, codeAmong, rawInt]) ⟨bm, ob, h2, h3, hbG, hbP, H.keep _ _ h4, h5, h6, h7⟩ fun ctv h' tk hk hsz => ?_)
  have H1 := H.keeps (s' := { s with heap := h', toks := tk }) ⟨h', tk, rfl, hk⟩
  exact h _ _ (H1.new (keeps_push _ _ _) (fresh_size _) ⟨_, Heap.get?_push_size _ rfl, _, _, rfl⟩)
/-- a lambda made, whether its code stood in the table or not -/
theorem mkLamBoth {P c bm : Addr} {ob : Obj} {mg : Str → Option Value} {params : Arguments} {body : Expr} {scope : Scope} {pos : Pos} {clos : List (Str × Addr)} {qual : Str} {sb : Shared} {ps : Array Value} {Q : Value → Shared → Prop} (H : FS G true (hideS P sb) env ns vs cns cvs ((P, fun o => o = tabObj ps) :: led) s) (hE : EnvIs env nk) (hcode : env.code = .ref c)
    (hg : (hideS P sb).heap.Ns mainGlobals mg) (h2 : mg "__builtins__" = some (.ref bm)) (h3 : bm ≠ builtinsNs) (h4 : (hideS P sb).heap.get? bm = some ob) (h5 : ob.cls = .type "module") (h6 : ob.dict = some builtinsNs) (h7 : ob.data = .plain) (C : CodeHd (hideS P sb).heap c P)
    (hps : sb.heap.get? P = some (tabObj ps)) (hcase : ps = #[] ∨ ∃ c', ps = ps1 pos c' ∧ ∃ o, sb.heap.get? c' = some o ∧ CodeO qual o) (hq : env.qual ++ "<lambda>" = qual)
    (hdef : defaultsOf params env = ([], [])) (hcl : closureFor scope env = pure clos)
    (h : ∀ f c' s', FS G true (hideS P sb) env ns vs cns cvs led s' → s'.heap.get? P = some (tabObj (ps1 pos c')) → (∃ o, s'.heap.get? c' = some o ∧ CodeO qual o) → (sb.heap.get? c' = none ∨ sb.heap.get? P = some (tabObj (ps1 pos c'))) →
      (∃ o, s'.heap.get? f = some o ∧ LamO params body scope clos qual (.ref c') o) → Q (.ref f) s') :
    wpAny (model prog w) A (eval (.Lambda params body scope pos) env) Q E s := by
  rcases hcase with rfl | ⟨c', rfl, hco⟩
  · refine mkLam H hE hcode hg h2 h3 h4 h5 h6 h7 C hdef hcl fun f c' s9 H9 hfr => ?_
    rw [hq] at H9
    refine h f c' s9 (H9.sub ((List.sublist_cons_self _ _).trans ((List.sublist_cons_self _ _).trans (List.sublist_cons_self _ _)))) ?_ (H9.has (c', CodeO qual) (List.mem_cons_of_mem _ List.mem_cons_self)).1 (.inl ?_) (H9.has (f, LamO _ _ _ _ qual (.ref c')) List.mem_cons_self).1
    · obtain ⟨⟨o, ho, eo⟩, _⟩ := H9.has (P, fun o => o = tabObj (ps1 pos c')) (List.mem_cons_of_mem _ (List.mem_cons_of_mem _ List.mem_cons_self))
      rw [eo] at ho; exact ho
    · cases q : sb.heap.get? c' with
      | none => rfl
      | some o =>
        exfalso
        by_cases hc79 : c' = P
        · subst hc79
          obtain ⟨⟨o', ho', _⟩, _⟩ := H.has (c', fun o => o = tabObj #[]) List.mem_cons_self
          simp only at ho'
          rw [hfr] at ho'; cases ho'
        · have := H.keep c' o (hide_ne q hc79)
          rw [hfr] at this; cases this
  · refine mkLamHit H hE hcode hg h2 h3 h4 h5 h6 h7 C hdef hcl fun f s9 H9 => ?_
    rw [hq] at H9
    refine h f c' s9 (H9.sub ((List.sublist_cons_self _ _).trans (List.sublist_cons_self _ _))) ?_ ?_ (.inr hps) (H9.has (f, LamO _ _ _ _ qual (.ref c')) List.mem_cons_self).1
    · obtain ⟨⟨o, ho, eo⟩, _⟩ := H9.has (P, fun o => o = tabObj (ps1 pos c')) (List.mem_cons_of_mem _ List.mem_cons_self)
      rw [eo] at ho; exact ho
    · obtain ⟨o, ho, hoc⟩ := hco
      have hc79 : c' ≠ P := by
        intro q
        rw [q, hps] at ho
        cases ho
        obtain ⟨vs, t, e1, e2⟩ := hoc
        cases e1
        simp [ps1, rawInt] at e2
      exact ⟨o, H9.keep _ _ (hide_ne ho hc79), hoc⟩
end
end Mine
namespace Mine
section
variable {G : Heap → Prop} {own : Bool} {s₀ : Shared} {env : Env} {nk : List (Str × NameKind)} {ns cns : List Str} {vs cvs : List (Option Value)} {led : Led} {s : Shared}
variable {prog : Program} {w : World} {A : Around} {E : Value → Shared → Prop}
/-- a call of a def some of whose parameters are captured -/
theorem callC {a : Addr} {o : Obj} {fd : FuncData} {body : List Stmt} {Q : Value → Shared → Prop} {pos : List Value} {kw : List (Str × Value)} {binds : List (Str × Value)}
    (ns : List Str) (vs : List (Option Value)) (cns : List Str) (cvs : List (Option Value)) (nk : List (Str × NameKind)) {d : Nat} (hA : Room A (d + 1))
    (ho : s.heap.get? a = some o) (hdata : o.data = .func fd) (hg : G s.heap) (hlim : s.heap.NoLimit) (hcd : s.heap.CodeRec fd.code fd.qualname) (hbody : fd.body = .stmts body) (hnk : fd.scope.names = nk)
    (hbind : ∀ (Q' : List (Str × Value) → Shared → Prop) (E' : Value → Shared → Prop), Q' binds s → wpAny (model prog w) A.in1 (bindArgs fd ⟨pos, kw⟩) Q' E' s)
    (hkind : ∀ x ∈ binds, nk.lookup x.1 = some .local ∨ (nk.lookup x.1 = some .cell ∧ ((cellsFrom (s.heap.objs.size + 1) nk []).lookup x.1).isSome = true))
    (hv : ∀ x v, At ns vs x v → bindL (fun x => nk.lookup x) binds (fun _ => none) x = some v)
    (hcv : ∀ x o, AtO cns cvs x o → (∃ c, (cellsFrom (s.heap.objs.size + 1) nk []).lookup x = some c) ∧ bindC (fun x => nk.lookup x) binds (fun _ => none) x = o)
    (hnd : ns.Nodup) (hcnd : cns.Nodup) (hdbg : nk.lookup (Str.ofString "__debug__") = none)
    (h : ∀ env s₁, EnvIs env nk → env.code = fd.code → env.qual = fd.qualname ++ ".<locals>." → Room (A.deeper env) d → FS G true s env ns vs cns cvs [] s₁ → wpAny (model prog w) (A.deeper env) (execs body env) (RetQ Q) (fun _ _ => False) s₁)
    (hco : fd.scope.isCoroutine = false := by rfl) (hgen : fd.scope.isGenerator = false := by rfl) (hk : fd.scope.kind = .function := by rfl) (hclo : fd.closure = [] := by rfl)
    (hgl : fd.globals = mainGlobals := by rfl) (hbi : fd.builtins = builtinsNs := by rfl) :
    wpAny (model prog w) A (call (.ref a) pos kw) Q E s := by
  subst hnk
  refine wpAny_call ?_
  have hd := hA.depth
  refine codeAny_call_function (by omega) ho hdata hco hgen hbody hcd (hbind _ _ ?_)
  rw [hclo]
  refine wpAny_newFunctionEnv_cells hk hkind fun env he s' x => ⟨hlim.keeps x.toInCall.keep, ?_⟩
  have hloc : env.locals = s.heap.objs.size := by rw [he]; rfl
  have hcells : env.cells = cellsFrom (s.heap.objs.size + 1) fd.scope.names [] := by rw [he]; rfl
  have hkof : env.kindOf = (fun x => fd.scope.names.lookup x) := by rw [he]; rfl
  have hL0 : s.heap.get? env.locals = none := Heap.get?_none_of_le (by rw [hloc]; exact Nat.le_refl _)
  have HF : FS G true s env ns vs cns cvs [] s' := by
    refine ⟨x.toInCall.same, x.toInCall.keep, hg, hnd, hcnd, ⟨_, x.toInCall.ns, fun y v a => by rw [hkof]; exact hv y v a⟩, fun y o a => ?_, fun y z c h1 h2 => ?_, fun p hp => (nomatch hp), List.Pairwise.nil, fun _ => hL0⟩
    · obtain ⟨⟨c, h1⟩, h2⟩ := hcv y o a
      rw [← hcells] at h1
      have hab := x.above y c (mem_of_lookup h1)
      refine ⟨c, h1, ?_, fun _ => Heap.get?_none_of_le ?_, Nat.ne_of_gt hab, fun p hp => (nomatch hp)⟩
      · have := x.cell y c h1
        rw [hkof, h2] at this; exact this
      · rw [hloc] at hab; exact Nat.le_of_lt hab
    · exact name_of_addr x.apart (mem_of_lookup h1) (mem_of_lookup h2)
  refine codeAny_func (wpAny_mono (h env s' ⟨by rw [he]; rfl, by rw [he]; exact hk, by rw [he]; exact hgl, by rw [he]; exact hbi, hdbg⟩ (by rw [he]; rfl) (by rw [he]; rfl) (hA.deeper env) HF) (fun f s' q => ?_) fun _ _ f => f.elim)
  cases f <;> exact q
/-- a call of a lambda of one parameter -/
theorem callLam {f : Addr} {o : Obj} {one : Str} {v : Value} {params : Arguments} {body : Expr} {scope : Scope} {clos : List (Str × Addr)} {qual : Str} {c' : Addr} {Q : Value → Shared → Prop} {d : Nat} (hA : Room A (d + 1))
    (ho : s.heap.get? f = some o) (hL : LamO params body scope clos qual (.ref c') o) (hg : G s.heap) (hlim : s.heap.NoLimit) (hcd : s.heap.CodeRec (.ref c') qual)
    (hbind : ∀ pm ctv, bindArgs (kla_fn "<lambda>" qual params body scope clos pm (.ref c') ctv) ⟨[v], []⟩ = pure [(one, v)]) (hloc : scope.names.lookup one = some .local) (hcell : ∀ x ∈ scope.names, x.2 ≠ .cell) (hk : scope.kind = .function)
    (hdbg : scope.names.lookup (Str.ofString "__debug__") = none) (hinj : ∀ x y c, clos.lookup x = some c → clos.lookup y = some c → x = y) (hco : scope.isCoroutine = false) (hgen : scope.isGenerator = false)
    (h : ∀ env s₁, EnvIs env scope.names → env.cells = clos → Room (A.deeper env) d → FS G true s env [one] [some v] [] [] [] s₁ → wpAny (model prog w) (A.deeper env) (eval body env) Q (fun _ _ => False) s₁) :
    wpAny (model prog w) A (call (.ref f) [v]) Q E s := by
  obtain ⟨pm, ctv, rfl⟩ := hL
  refine wpAny_call ?_
  have hd := hA.depth
  refine kla_callFunE (by omega) ho rfl hco hgen rfl hcd ?_
  rw [hbind]
  refine wpAny_pure (wpAny_newFunctionEnv (binds := [(one, v)]) hcell (by intro y hy; simp only [List.mem_cons, List.not_mem_nil, or_false] at hy; subst hy; exact hloc) (fun h₁ hns hsb => ⟨hlim.fresh _ hsb, ?_⟩) hk)
  generalize henv : newEnv scope s.heap.objs.size mainGlobals clos (qual ++ ".<locals>.") (some f) (.ref c') none builtinsNs = env at hns hsb ⊢
  have hk₁ : ∀ b o, s.heap.get? b = some o → h₁.get? b = some o := fun b o e => hsb.extBut b o (Nat.ne_of_lt (Heap.lt_size e)) (Heap.get?_push_of_some _ e)
  have hloc' : env.locals = s.heap.objs.size := by rw [← henv]; rfl
  have hcells : env.cells = clos := by rw [← henv]; rfl
  have hL0 : s.heap.get? s.heap.objs.size = none := fresh_size _
  have HF : FS G true s env [one] [some v] [] [] [] { s with heap := h₁, toks := s.toks + ([(one, v)] : List (Str × Value)).length } := by
    refine ⟨⟨h₁, _, rfl⟩, hk₁, hg, by simp, by simp, ⟨_, by rw [hloc']; exact hns, fun y u a => ?_⟩, fun y o a => (by cases a), by rw [hcells]; exact hinj, fun p hp => (nomatch hp), List.Pairwise.nil, fun _ => by rw [hloc']; exact hL0⟩
    cases a with
    | head => simp
    | tail a => cases a
  refine kla_codeExpr (wpE (wpAny_mono (h env _ ⟨by rw [← henv]; rfl, by rw [← henv]; exact hk, by rw [← henv]; rfl, by rw [← henv]; rfl, hdbg⟩ hcells (hA.deeper env) HF) (fun v s' q => q) fun _ _ f => f))
/-- a def of the top, called with a keyword -/
theorem cwK {pos : Pos} {a : Addr} {e : Expr} {rest : List Expr} {kws : List Keyword} {Q : Value → Shared → Prop} (hf : FnAt G a) (hall : (backToKw pos (keywordEach kws env)).all (·.1.isSome) = true)
    (h : wpAny (model prog w) A (spliced (backTo pos (starEach (e :: rest) env))) (fun vs s₁ => wpAny (model prog w) A (evalAll ((backToKw pos (keywordEach kws env)).map (·.2)))
      (fun ks s₂ => G s₂.heap ∧ wpAny (model prog w) A (call (.ref a) vs (((backToKw pos (keywordEach kws env)).filterMap (·.1)).zip ks)) Q E s₂) E s₁) E s)
    (he : starEach (e :: rest) env = (false, eval e env) :: starEach rest env := by rfl) :
    wpAny (model prog w) A (callWith pos (.ref a) [] (backTo pos (starEach (e :: rest) env)) (backToKw pos (keywordEach kws env))) Q E s := by
  obtain ⟨o, fd, ho, hd⟩ := hf
  exact callWith_def_kw hd (evalArgs_kw2 hall (wpAny_mono h (fun vs s₁ h₁ => wpAny_mono h₁ (fun ks s₂ h₂ => ⟨ho _ h₂.1, h₂.2⟩) fun _ _ x => x) fun _ _ x => x) he)
end
end Mine
namespace Mine
open_top hd1 for PySem.Challenge.rw_pu0024_01
end Mine
namespace Mine
noncomputable abbrev KK : Params → Frag := hd1.heap_39
/-- what the top's own names say of the builtins' module, and the code of _law_stands -/
def Extra (h : Heap) : Prop := ∃ mg bm ob, h.Ns mainGlobals mg ∧ mg "__builtins__" = some (.ref bm) ∧ bm ≠ builtinsNs ∧ h.get? bm = some ob ∧ ob.cls = .type "module" ∧ ob.dict = some builtinsNs ∧ ob.data = .plain ∧ CodeHd h 81 79
theorem Extra.up {h h' : Heap} (x : Extra h) (k : ∀ b o, h.get? b = some o → h'.get? b = some o) : Extra h' := by
  obtain ⟨mg, bm, ob, h1, h2, h3, h4, h5, h6, h7, h8⟩ := x
  exact ⟨mg, bm, ob, h1.keeps k, h2, h3, k _ _ h4, h5, h6, h7, h8.keeps k⟩
/-- the program's top, at a heap -/
def GG (w : World) (h : Heap) : Prop := (KK w.params).In h ∧ h.NoLimit ∧ (∃ mg, h.Ns mainGlobals mg) ∧ (∃ mb, h.Ns builtinsNs mb ∧ ∀ x : Str, x ≠ "__name__" → mb x = bootBuiltins x) ∧ Extra h
theorem GG.st (w : World) : Stable (GG w) := ⟨fun _ _ g k => ⟨g.1.keeps k, g.2.1.keeps k, (let ⟨mg, h⟩ := g.2.2.1; ⟨mg, h.keeps k⟩), (let ⟨mb, h, e⟩ := g.2.2.2.1; ⟨mb, h.keeps k, e⟩), g.2.2.2.2.up k⟩⟩
theorem GG.glob {w : World} {x : Str} {v : Value} (e : nsIn (KK w.params) mainGlobals x = some (some v)) : GName (GG w) x v := fun _ g => by
  obtain ⟨mg, hm⟩ := g.2.2.1
  exact ⟨mg, hm, mg_of g.1 hm e⟩
theorem GG.built {w : World} {x : Str} {v : Value} (e : nsIn (KK w.params) mainGlobals x = some none) (hv : bootBuiltins x = some v) (hn : x ≠ "__name__") : BName (GG w) x v := fun _ g => by
  obtain ⟨mg, hm⟩ := g.2.2.1
  obtain ⟨mb, hb, q⟩ := g.2.2.2.1
  exact ⟨mg, mb, hm, mg_none_of g.1 hm e, hb, (q x hn).trans hv⟩
theorem GG.fn {w : World} {a : Addr} (e : fnIn (KK w.params) a = true) : FnAt (GG w) a := by
  unfold fnIn at e
  split at e
  · rename_i c d fd sl q
    exact ⟨_, fd, fun _ g => g.1 _ _ q, rfl⟩
  · cases e

theorem g_MAX (w : World) : GName (GG w) (Str.ofString "_MAX_STRING_SIZE") (.int 40 219) := GG.glob (by kernel_rfl)
theorem g_MOVE (w : World) : GName (GG w) (Str.ofString "_MOVE_COST") (.int 2 221) := GG.glob (by kernel_rfl)
theorem g_CASE (w : World) : GName (GG w) (Str.ofString "_CASE_COST") (.int 1 223) := GG.glob (by kernel_rfl)
theorem g_sub (w : World) : GName (GG w) (Str.ofString "_substitution_cost") (.ref 39) := GG.glob (by kernel_rfl)
theorem g_lev (w : World) : GName (GG w) (Str.ofString "_levenshtein_distance") (.ref 46) := GG.glob (by kernel_rfl)
theorem b_len (w : World) : BName (GG w) (Str.ofString "len") (.builtin "len") := GG.built (by kernel_rfl) (by decide +kernel) (by decide)
theorem b_min (w : World) : BName (GG w) (Str.ofString "min") (.builtin "min") := GG.built (by kernel_rfl) (by decide +kernel) (by decide)
theorem b_range (w : World) : BName (GG w) (Str.ofString "range") (.type "range") := GG.built (by kernel_rfl) (by decide +kernel) (by decide)
theorem b_list (w : World) : BName (GG w) (Str.ofString "list") (.type "list") := GG.built (by kernel_rfl) (by decide +kernel) (by decide)
theorem f_sub (w : World) : FnAt (GG w) 39 := GG.fn (by kernel_rfl)
theorem f_lev (w : World) : FnAt (GG w) 46 := GG.fn (by kernel_rfl)
theorem g_fig (w : World) : GName (GG w) (Str.ofString "_law_figures") (.ref 53) := GG.glob (by kernel_rfl)
theorem f_fig (w : World) : FnAt (GG w) 53 := GG.fn (by kernel_rfl)
theorem g_text (w : World) : GName (GG w) (Str.ofString "_law_text") (.ref 58) := GG.glob (by kernel_rfl)
theorem f_text (w : World) : FnAt (GG w) 58 := GG.fn (by kernel_rfl)
theorem g_letter (w : World) : GName (GG w) (Str.ofString "_law_letter") (.ref 65) := GG.glob (by kernel_rfl)
theorem f_letter (w : World) : FnAt (GG w) 65 := GG.fn (by kernel_rfl)
theorem g_reaches (w : World) : GName (GG w) (Str.ofString "_law_reaches") (.ref 70) := GG.glob (by kernel_rfl)
theorem f_reaches (w : World) : FnAt (GG w) 70 := GG.fn (by kernel_rfl)
theorem g_tells (w : World) : GName (GG w) (Str.ofString "_law_tells") (.ref 77) := GG.glob (by kernel_rfl)
theorem f_tells (w : World) : FnAt (GG w) 77 := GG.fn (by kernel_rfl)
theorem g_stands (w : World) : GName (GG w) (Str.ofString "_law_stands") (.ref 82) := GG.glob (by kernel_rfl)
theorem f_stands (w : World) : FnAt (GG w) 82 := GG.fn (by kernel_rfl)
theorem g_bisR (w : World) : GName (GG w) (Str.ofString "bisect_right") (.ref 23) := GG.glob (by kernel_rfl)
theorem f_bisR (w : World) : FnAt (GG w) 23 := GG.fn (by kernel_rfl)
theorem g_bisL (w : World) : GName (GG w) (Str.ofString "bisect_left") (.ref 32) := GG.glob (by kernel_rfl)
theorem f_bisL (w : World) : FnAt (GG w) 32 := GG.fn (by kernel_rfl)
theorem b_max (w : World) : BName (GG w) (Str.ofString "max") (.builtin "max") := GG.built (by kernel_rfl) (by decide +kernel) (by decide)
theorem b_isinstance (w : World) : BName (GG w) (Str.ofString "isinstance") (.builtin "isinstance") := GG.built (by kernel_rfl) (by decide +kernel) (by decide)
theorem b_bool (w : World) : BName (GG w) (Str.ofString "bool") (.type "bool") := GG.built (by kernel_rfl) (by decide +kernel) (by decide)
theorem b_abs (w : World) : BName (GG w) (Str.ofString "abs") (.builtin "abs") := GG.built (by kernel_rfl) (by decide +kernel) (by decide)
end Mine
namespace Mine
set_option hygiene false
local macro_rules | `(tactic| walk_at "rn") => `(tactic| (rename FS _ _ _ _ _ _ _ _ _ _ => hOld))
local macro_rules | `(tactic| walk_at "c2") => `(tactic| (clear hOld; intro _ _))
local macro_rules | `(tactic| walk_at "c3") => `(tactic| (clear hOld; intro _ _ _))
local macro_rules | `(tactic| walk_at "c7") => `(tactic| (clear hOld; intro _ _ _ _ _ _ _))
local macro_rules | `(tactic| walk_at "at") => `(tactic| (first | (with_reducible exact At.head) | (with_reducible apply At.tail; walk_at "at")))
local macro_rules | `(tactic| walk_at "put") => `(tactic| (first | (with_reducible exact Put.head) | (with_reducible apply Put.tail; walk_at "put")))
local macro_rules | `(tactic| walk_at "kf") => `(tactic| (kernel_rfl))
local macro_rules | `(tactic| walk_at "om") => `(tactic| (first | omega | (simp only [List.length_drop, List.length_take, List.length_cons, List.length_nil, List.length_append, List.length_replicate]; omega)))
local macro_rules | `(tactic| walk_at "glob") => `(tactic| (with_reducible first | exact g_MOVE _ | exact g_CASE _ | exact g_MAX _ | exact g_sub _ | exact g_lev _ | exact g_fig _ | exact g_text _ | exact g_letter _ | exact g_reaches _ | exact g_tells _ | exact g_stands _ | exact g_bisR _ | exact g_bisL _))
local macro_rules | `(tactic| walk_at "bui") => `(tactic| (with_reducible first | exact b_len _ | exact b_min _ | exact b_range _ | exact b_list _ | exact b_max _ | exact b_isinstance _ | exact b_bool _ | exact b_abs _))
local macro_rules | `(tactic| walk_at "fun") => `(tactic| (with_reducible first | exact f_sub _ | exact f_lev _ | exact f_fig _ | exact f_text _ | exact f_letter _ | exact f_reaches _ | exact f_tells _ | exact f_stands _ | exact f_bisR _ | exact f_bisL _))
local macro_rules | `(tactic| walk_at "ev") => `(tactic| (
  (with_reducible show wpAny _ _ (eval _ _) _ _ _);
  first
  | ((with_reducible show wpAny _ _ (eval (Expr.Name _ _) _) _ _ _); first
      | (walk_at "rn"; refine nmL hOld (by assumption) (by walk_at "at") (by walk_at "kf") ?_)
      | (walk_at "rn"; refine nmC hOld (by assumption) (by walk_at "at") (by walk_at "kf") ?_)
      | (walk_at "rn"; refine nmG (GG.st _) hOld (by assumption) (by walk_at "kf") (by walk_at "glob") ?_)
      | (walk_at "rn"; refine nmB (GG.st _) hOld (by assumption) (by walk_at "kf") (by walk_at "bui") ?_))
  | ((with_reducible show wpAny _ _ (eval (Expr.Constant _ _ _) _) _ _ _); first
      | (walk_at "rn"; with_reducible refine cInt hOld ?_; walk_at "c3")
      | (walk_at "rn"; with_reducible refine cStr hOld ?_; walk_at "c3")
      | with_reducible refine cBool ?_
      | with_reducible refine cNone ?_)
  | with_reducible refine wpAny_BinOp ?_
  | with_reducible refine wpAny_Compare1 ?_
  | ((with_reducible show wpAny _ _ (eval (Expr.UnaryOp _ _ _) _) _ _ _); refine UnaryOp_ ?_)
  | ((with_reducible show wpAny _ _ (eval (Expr.IfExp _ _ _ _) _) _ _ _); refine IfExp_ ?_)
  | ((with_reducible show wpAny _ _ (eval (Expr.BoolOp _ _ _) _) _ _ _); first
      | (walk_at "rn"; with_reducible refine orNone hOld (by assumption) (by walk_at "at") (by walk_at "kf") ?_; intro _ _)
      | refine BoolOp_one ?_
      | refine BoolOp_and ?_
      | refine BoolOp_or ?_)
  | ((with_reducible show wpAny _ _ (eval (Expr.List _ _) _) _ _ _); refine List_ ?_)
  | ((with_reducible show wpAny _ _ (eval (Expr.Subscript _ _ _) _) _ _ _); first
      | refine evSlice ?_
      | refine Subscript_ ?_)
  | ((with_reducible show wpAny _ _ (eval (Expr.Call (Expr.Attribute _ _ _) _ _ _) _) _ _ _); refine mCall ?_)
  | ((with_reducible show wpAny _ _ (eval (Expr.Call _ _ _ _) _) _ _ _); refine Call_ ?_)))
local macro_rules | `(tactic| walk_at "op") => `(tactic| (first
  | ((with_reducible show wpAny _ _ (binaryOp _ (Value.int _ _) (Value.int _ _)) _ _ _); first
      | (walk_at "rn"; with_reducible refine addI hOld ?_; walk_at "c3")
      | (walk_at "rn"; with_reducible refine subI hOld ?_; walk_at "c3")
      | (walk_at "rn"; with_reducible refine mulI' hOld (by omega) ?_; walk_at "c3")
      | (walk_at "rn"; with_reducible refine modI hOld (by decide) ?_; walk_at "c3")
      | (walk_at "rn"; with_reducible refine fdiv2 hOld ?_; walk_at "c3")
      | (walk_at "rn"; with_reducible refine fdivI hOld (by decide) (by decide) ?_; walk_at "c3"))
  | ((with_reducible show wpAny _ _ (compareOp _ _ _) _ _ _); with_reducible first
      | refine eqS ?_
      | refine eqI ?_
      | refine ltI ?_
      | refine gtI ?_
      | refine leI ?_
      | refine neI ?_
      | refine isNN ?_
      | refine isIN ?_
      | with_reducible refine isRN ?_)
  | ((with_reducible show wpAny _ _ (truthy _) _ _ _); first
      | with_reducible refine truB ?_
      | with_reducible refine truI ?_
      | with_reducible refine truthy_none ?_
      | (walk_at "rn"; with_reducible refine truS' hOld (by walk_at "om") ?_; walk_at "c2"))
  | ((with_reducible show wpAny _ _ (unaryOp UnaryOp.Not _) _ _ _); refine not_of ?_)
  | ((with_reducible show wpAny _ _ (unaryOp UnaryOp.USub _) _ _ _); (walk_at "rn"; with_reducible refine negI hOld ?_; walk_at "c3"))
  | ((with_reducible show wpAny _ _ (inplaceOp _ _ _) _ _ _); first
      | (walk_at "rn"; with_reducible refine iaddI hOld ?_; walk_at "c3")
      | (walk_at "rn"; with_reducible refine isubI hOld ?_; walk_at "c3"))))
local macro_rules | `(tactic| walk_at "call") => `(tactic| (first
  | ((with_reducible show wpAny _ _ (callWith _ _ _ _ _) _ _ _); first
      | refine cwB ?_
      | refine cwT ?_
      | (walk_at "rn"; refine cwF hOld (by walk_at "fun") ?_)
      | refine callWith_method0 ?_
      | refine callWith_method1 ?_)
  | ((with_reducible show wpAny _ _ (spliced _) _ _ _); first
      | refine spliced_none ?_
      | refine spliced_more ?_)
  | with_reducible refine wpAny_evalPart_none ?_
  | with_reducible refine wpAny_evalPart_some ?_
  | ((with_reducible show wpAny _ _ (call (Value.builtin _) _) _ _ _); first
      | (walk_at "rn"; with_reducible refine lowC hOld (by assumption) ?_; walk_at "c3")
      | (walk_at "rn"; with_reducible refine lenL' hOld (FS.base hOld (by assumption)) (by walk_at "om") ?_; walk_at "c3")
      | (walk_at "rn"; with_reducible refine lenS' hOld (by walk_at "om") ?_; walk_at "c3")
      | (walk_at "rn"; with_reducible refine min2 hOld (Room.handled (by assumption)) ?_; walk_at "c3")
      | (walk_at "rn"; with_reducible refine max2 hOld (Room.handled (by assumption)) ?_; walk_at "c3")
      | (walk_at "rn"; with_reducible refine isBool hOld ?_; walk_at "c2")
      | (walk_at "rn"; with_reducible refine absI hOld ?_; walk_at "c3")
      | (walk_at "rn"; with_reducible refine max3 hOld (Room.handled (by assumption)) ?_; walk_at "c3")
      | (walk_at "rn"; with_reducible refine max4 hOld (Room.handled (by assumption)) ?_; walk_at "c3"))
  | ((with_reducible show wpAny _ _ (call (Value.type _) _) _ _ _); first
      | (walk_at "rn"; with_reducible refine rng1 hOld ?_; walk_at "c7")
      | (walk_at "rn"; with_reducible refine rng2 hOld ?_; walk_at "c7")
      | (walk_at "rn"; with_reducible refine rng3 hOld (by decide) (by decide) ?_; walk_at "c7"))
  | ((with_reducible show wpAny _ _ (sliceTree _ _ (Value.str _ _) _ _) _ _ _); first
      | (walk_at "rn"; with_reducible refine slFromN hOld (by walk_at "om") (by walk_at "om") ?_; walk_at "c3")
      | (walk_at "rn"; with_reducible refine slToN hOld (by walk_at "om") (by walk_at "om") ?_; walk_at "c3")
      | (walk_at "rn"; with_reducible refine slOrN hOld (by assumption) (by walk_at "om") (by walk_at "om") ?_; walk_at "c3")
      | (walk_at "rn"; with_reducible refine slFrom hOld (by walk_at "om") (by walk_at "om") (by walk_at "om") ?_; walk_at "c3")
      | (walk_at "rn"; with_reducible refine slTo hOld (by walk_at "om") (by walk_at "om") (by walk_at "om") ?_; walk_at "c3"))
  | ((with_reducible show wpAny _ _ (newList _) _ _ _); (walk_at "rn"; with_reducible refine newL' hOld (by walk_at "om") ?_; walk_at "c3"))
  | ((with_reducible show wpAny _ _ (getMethod _ _ _) _ _ _); first
      | (with_reducible refine gmJoin ?_; dsimp only)
      | (with_reducible refine gmLower ?_; dsimp only))))
local macro_rules | `(tactic| walk_at "st") => `(tactic| (first
  | ((with_reducible show SeqQ _ _ _ _ _ _ _ _); first | with_reducible refine seqNext ?_ | with_reducible refine seqRet ?_)
  | ((with_reducible show RetQ _ _ _); with_reducible refine retRet ?_)
  | (with_reducible refine turnRet ?_)
  | (with_reducible refine forRet ?_)
  | (with_reducible refine cutRet ?_)
  | with_reducible refine exNil ?_
  | with_reducible refine exCons ?_
  | ((with_reducible show wpAny _ _ (exec (Stmt.Assign [Expr.Name _ _] _ _) _) _ _ _); refine exAssign ?_)
  | ((with_reducible show wpAny _ _ (exec (Stmt.Assign [Expr.Name _ _, Expr.Name _ _] _ _) _) _ _ _); refine wpAny_Assign_two ?_)
  | ((with_reducible show wpAny _ _ (exec (Stmt.Assign [Expr.Subscript _ _ _] _ _) _) _ _ _); refine wpAny_Assign_Subscript ?_)
  | with_reducible refine wpAny_assign_Name ?_
  | ((with_reducible show wpAny _ _ (exec (Stmt.AugAssign (Expr.Name _ _) _ _ _) _) _ _ _); refine wpAny_AugAssign_Name ?_)
  | with_reducible refine wpAny_If ?_
  | with_reducible refine wpAny_Return_some ?_
  | ((with_reducible show wpAny _ _ (exec (Stmt.Expr _ _) _) _ _ _); refine exExpr (by assumption) ?_)
  | ((with_reducible show wpAny _ _ (exec (Stmt.For _ _ _ _ _) _) _ _ _); refine wpAny_For ?_)
  | ((with_reducible show wpAny _ _ (storeName _ _ _) _ _ _); first
      | (walk_at "rn"; refine stL hOld (by assumption) (by walk_at "put") (by walk_at "kf") ?_; walk_at "c2")
      | (walk_at "rn"; refine stC hOld (by assumption) (by walk_at "put") (by walk_at "kf") ?_; walk_at "c2"))
  | ((with_reducible show wpAny _ _ (loadName _ _) _ _ _); first
      | (walk_at "rn"; refine ldL hOld (by assumption) (by walk_at "at") (by walk_at "kf") ?_)
      | (walk_at "rn"; refine ldC hOld (by assumption) (by walk_at "at") (by walk_at "kf") ?_))))
local macro_rules | `(tactic| walk_at "tr") => `(tactic| (
  (with_reducible show wpAny _ _ (isTrue _ _ _) _ _ _);
  first
      | with_reducible refine isTrue_and ?_
      | with_reducible refine isTrue_or ?_
      | with_reducible refine isTrue_and_nil ?_
      | with_reducible refine isTrue_or_nil ?_
      | with_reducible refine isTrue_not ?_
      | refine wpAny_isTrue_Compare1 ?_
      | refine cmp2 ?_
      | refine isTrue_plain ?_))
local macro_rules | `(tactic| walk_at "go") => `(tactic| (first
  | ((with_reducible show wpAny _ _ _ _ _ _); first | walk_at "ev" | walk_at "op" | walk_at "call" | walk_at "st" | walk_at "tr")
  | walk_at "st"
  | ((with_reducible show And (GG _ _) _); (walk_at "rn"); (refine And.intro (FS.gg (GG.st _) hOld) ?_))
  | ((with_reducible show (if _ then _ else _)); with_reducible first | (refine iteT ?_) | (refine iteF ?_) | (refine iteD (fun _ => ?_) (fun _ => ?_)) | (refine iteB (fun _ => ?_) (fun _ => ?_)))))
local macro_rules | `(tactic| walk_at "gs") => `(tactic| ((fail_if_success (with_reducible show wpAny _ _ (exec (Stmt.If _ _ _ _) _) _ _ _)); walk_at "go"))
local macro_rules | `(tactic| walk_at "gw") => `(tactic| ((fail_if_success (with_reducible show wpAny _ _ (execs (Stmt.If _ [Stmt.Assign [Expr.Tuple _ _ _] _ _] _ _ :: _) _) _ _ _)); walk_at "go"))
local macro_rules | `(tactic| walk_at "gi") => `(tactic| ((fail_if_success (with_reducible show wpAny _ _ (execs (Stmt.If _ _ _ _ :: _) _) _ _ _)); walk_at "go"))
local macro_rules | `(tactic| walk_at "gs1") => `(tactic| ((fail_if_success (with_reducible show wpAny _ _ (sliceTree _ _ _ _ _) _ _ _)); walk_at "go"))
set_option hygiene true
variable {w : World} {prog : Program}
theorem sub_call {A : Around} {s : Shared} {x y : Nat} {t u : Tok} {Q : Value → Shared → Prop} (hA : Room A 1) (g : GG w s.heap) (hx : Sg x) (hy : Sg y) (h : ∀ t s', Keeps s s' → Q (.int (subc x y) t) s') :
    wpAny (model prog w) A (call (.ref 39) [.str (S [x]) t, .str (S [y]) u]) Q (fun _ _ => False) s := by
  refine callP (G := GG w) [Str.ofString "ch_a", Str.ofString "ch_b"] [.str (S [x]) t, .str (S [y]) u] [] [] [Str.ofString "ch_a", Str.ofString "ch_b"] [some (.str (S [x]) t), some (.str (S [y]) u)] [] _ hA (g.1 39 _ rfl) rfl g g.2.1 ⟨38, _, _, _, rfl, g.1 38 _ rfl, rfl, rfl⟩ rfl rfl (fun Q' E' q => wpAny_pure q) (by kernel_rfl) rfl (by kernel_rfl) (by kernel_rfl) (by kernel_rfl) (by kernel_rfl) ?_
  intro env s₁ hE hR H
  repeat' (walk_at "go")
  all_goals (refine endI h (by assumption) ?_; simp_all [subc])
theorem subc_nonneg (x y : Nat) : 0 ≤ subc x y := by unfold subc; split <;> (try split) <;> decide
theorem subc_le (x y : Nat) : subc x y ≤ 2 := by unfold subc; split <;> (try split) <;> decide
theorem subc_self (x : Nat) : subc x x = 0 := by simp [subc]
theorem subc_comm (x y : Nat) : subc x y = subc y x := by
  unfold subc
  by_cases h : x = y
  · subst h; rfl
  · have h2 : ¬ y = x := fun e => h e.symm
    by_cases h' : low x = low y
    · simp [h, h2, h']
    · have h3 : ¬ low y = low x := fun e => h' e.symm
      simp [h, h2, h', h3]
theorem drop_back {l : List Nat} {i x : Nat} (h : l[i]? = some x) : l.drop i = x :: l.drop (i + 1) := by
  obtain ⟨hi, e⟩ := List.getElem?_eq_some_iff.mp h
  rw [List.drop_eq_getElem_cons hi, e]
/-- what _levenshtein_distance tells -/
def LevOk (a b : List Nat) (mc r : Int) : Prop := r = dist subc a b ∨ (mc < dist subc a b ∧ r = mc + 1)
theorem lev_call {A : Around} {s : Shared} {a b : List Nat} {mc : Int} {t u v : Tok} {Q : Value → Shared → Prop} (hA : Room A 2) (g : GG w s.heap) (ha : ∀ x ∈ a, Sg x) (hb : ∀ x ∈ b, Sg x) (la : a.length ≤ 40) (lb : b.length ≤ 40)
    (h : ∀ r t s', LevOk a b mc r → Keeps s s' → Q (.int r t) s') :
    wpAny (model prog w) A (call (.ref 46) [.str (S a) t, .str (S b) u, .int mc v]) Q (fun _ _ => False) s := by
  refine callP (G := GG w) [Str.ofString "a", Str.ofString "b", Str.ofString "max_cost"] [.str (S a) t, .str (S b) u, .int mc v] [Str.ofString "pre", Str.ofString "post", Str.ofString "row", Str.ofString "result", Str.ofString "bindex", Str.ofString "bchar", Str.ofString "distance", Str.ofString "minimum", Str.ofString "index", Str.ofString "substitute", Str.ofString "insert_delete"] [] [Str.ofString "a", Str.ofString "b", Str.ofString "max_cost", Str.ofString "pre", Str.ofString "post", Str.ofString "row", Str.ofString "result", Str.ofString "bindex", Str.ofString "bchar", Str.ofString "distance", Str.ofString "minimum", Str.ofString "index", Str.ofString "substitute", Str.ofString "insert_delete"] [some (.str (S a) t), some (.str (S b) u), some (.int mc v), none, none, none, none, none, none, none, none, none, none, none] [] _ hA (g.1 46 _ rfl) rfl g g.2.1 ⟨45, _, _, _, rfl, g.1 45 _ rfl, rfl, rfl⟩ rfl rfl (fun Q' E' q => wpAny_pure q) (by kernel_rfl) rfl (by kernel_rfl) (by kernel_rfl) (by kernel_rfl) (by kernel_rfl) ?_
  intro env s₁ hE hR H
  dsimp only at hE

  repeat' (walk_at "go")
  · refine h _ _ _ (.inl ?_) (FS.kept (by assumption))
    have e : a = b := by assumption
    subst e
    exact (dist_self subc subc_nonneg subc_self a).symm
  have hne : ¬ a = b := by assumption
  obtain ⟨JJ, hJJ⟩ : ∃ JJ : Inv, JJ = (fun k vs cvs led => ∃ (p : Nat) (tp : Tok), vs = [some (.str (S a) t), some (.str (S b) u), some (.int mc v), some (.int p tp), none, none, none, none, none, none, none, none, none, none] ∧ cvs = [] ∧ led = [] ∧ p ≤ a.length ∧ p ≤ b.length ∧ a.take p = b.take p ∧ k = a.length - p) := ⟨_, rfl⟩
  obtain ⟨XX, hXX⟩ : ∃ XX : Pre, XX = (fun vs cvs led => ∃ (p : Nat) (tp : Tok), vs = [some (.str (S a) t), some (.str (S b) u), some (.int mc v), some (.int p tp), none, none, none, none, none, none, none, none, none, none] ∧ cvs = [] ∧ led = [] ∧ p ≤ a.length ∧ p ≤ b.length ∧ a.take p = b.take p) := ⟨_, rfl⟩
  refine whileX (by assumption) JJ XX a.length (by rw [hJJ]; exact ⟨0, _, rfl, rfl, rfl, Nat.zero_le _, Nat.zero_le _, rfl, rfl⟩) ?_ ?_
  · rintro k _ _ _ s₂ hjj H₂
    rw [hJJ] at hjj
    obtain ⟨p, tp, rfl, rfl, rfl, hpa, hpb, hpp, rfl⟩ := hjj
    repeat' (walk_at "go")
    · have e1 : (!(a.drop p).isEmpty) = true := by assumption
      have e2 : (!(b.drop p).isEmpty) = true := by assumption
      simp at e1 e2
      obtain ⟨x, hx⟩ := get_some (l := a) (i := p) (by omega)
      obtain ⟨y, hy⟩ := get_some (l := b) (i := p) (by omega)
      rename FS _ _ _ _ _ _ _ _ _ _ => hOld; refine idxSN hOld (k := p) (by omega) hx rfl ?_; clear hOld; intro _ _ _
      repeat' (walk_at "go")
      rename FS _ _ _ _ _ _ _ _ _ _ => hOld; refine idxSN hOld (k := p) (by omega) hy rfl ?_; clear hOld; intro _ _ _
      repeat' (walk_at "go")
      · refine turnNext (a.length - (p + 1)) (by assumption) (by omega) ?_
        rw [hJJ]
        refine ⟨p + 1, _, by congr, rfl, rfl, by omega, by omega, ?_, rfl⟩
        have e : [x] = [y] := by assumption
        rw [take_snoc hx, take_snoc hy, hpp, e]
      · exact told (by assumption) (by rw [hXX]; exact ⟨p, tp, rfl, rfl, rfl, hpa, hpb, hpp⟩)
    all_goals exact told (by assumption) (by rw [hXX]; exact ⟨p, tp, rfl, rfl, rfl, hpa, hpb, hpp⟩)
  rintro _ _ _ s₂ hxx H₂
  rw [hXX] at hxx
  obtain ⟨p, tp, rfl, rfl, rfl, hpa, hpb, hpp⟩ := hxx
  clear hJJ hXX JJ XX
  have hD : dist subc a b = dist subc (a.drop p) (b.drop p) := by
    have := dist_pre subc subc_nonneg subc_self (a.take p) (a.drop p) (b.drop p)
    rw [List.take_append_drop, hpp, List.take_append_drop] at this
    exact this
  have ha1 : ∀ x ∈ a.drop p, Sg x := fun x hx => ha x (List.mem_of_mem_drop hx)
  have hb1 : ∀ x ∈ b.drop p, Sg x := fun x hx => hb x (List.mem_of_mem_drop hx)
  have la1 : (a.drop p).length ≤ 40 := by rw [List.length_drop]; omega
  have lb1 : (b.drop p).length ≤ 40 := by rw [List.length_drop]; omega
  repeat' (walk_at "go")
  rename_i H₃
  generalize a.drop p = a1 at hD ha1 la1 H₃
  generalize b.drop p = b1 at hD hb1 lb1 H₃
  obtain ⟨JJ, hJJ⟩ : ∃ JJ : Inv, JJ = (fun k vs cvs led => ∃ (q : Nat) (tq : Tok) (ta tb : Tok), vs = [some (.str (S a1) ta), some (.str (S b1) tb), some (.int mc v), some (.int p tp), some (.int (-(q : Int)) tq), none, none, none, none, none, none, none, none, none] ∧ cvs = [] ∧ led = [] ∧ q ≤ a1.length ∧ q ≤ b1.length ∧ a1.drop (a1.length - q) = b1.drop (b1.length - q) ∧ k = a1.length - q) := ⟨_, rfl⟩
  obtain ⟨XX, hXX⟩ : ∃ XX : Pre, XX = (fun vs cvs led => ∃ (q : Nat) (tq ta tb : Tok), vs = [some (.str (S a1) ta), some (.str (S b1) tb), some (.int mc v), some (.int p tp), some (.int (-(q : Int)) tq), none, none, none, none, none, none, none, none, none] ∧ cvs = [] ∧ led = [] ∧ q ≤ a1.length ∧ q ≤ b1.length ∧ a1.drop (a1.length - q) = b1.drop (b1.length - q)) := ⟨_, rfl⟩
  refine whileX (by assumption) JJ XX a1.length (by rw [hJJ]; exact ⟨0, _, _, _, rfl, rfl, rfl, Nat.zero_le _, Nat.zero_le _, by simp, rfl⟩) ?_ ?_
  · rintro k _ _ _ s₂ hjj H₂
    rw [hJJ] at hjj
    obtain ⟨q, tq, ta, tb, rfl, rfl, rfl, hqa, hqb, hqq, rfl⟩ := hjj
    repeat' (walk_at "go")
    · have e1 : (!(a1.take (a1.length - q)).isEmpty) = true := by assumption
      have e2 : (!(b1.take (b1.length - q)).isEmpty) = true := by assumption
      have f1 : q < a1.length := by
        rcases Nat.lt_or_ge q a1.length with hlt | hge
        · exact hlt
        · rw [show a1.length - q = 0 by omega] at e1; simp at e1
      have f2 : q < b1.length := by
        rcases Nat.lt_or_ge q b1.length with hlt | hge
        · exact hlt
        · rw [show b1.length - q = 0 by omega] at e2; simp at e2
      obtain ⟨x, hx⟩ := get_some (l := a1) (i := a1.length - (q + 1)) (by omega)
      obtain ⟨y, hy⟩ := get_some (l := b1) (i := b1.length - (q + 1)) (by omega)
      rename FS _ _ _ _ _ _ _ _ _ _ => hOld; refine idxS hOld (by constructor <;> omega) (j := a1.length - (q + 1)) (by rw [if_pos (by omega)]; omega) hx rfl ?_; clear hOld; intro _ _ _
      repeat' (walk_at "go")
      rename FS _ _ _ _ _ _ _ _ _ _ => hOld; refine idxS hOld (by constructor <;> omega) (j := b1.length - (q + 1)) (by rw [if_pos (by omega)]; omega) hy rfl ?_; clear hOld; intro _ _ _
      repeat' (walk_at "go")
      · refine turnNext (a1.length - (q + 1)) (by assumption) (by omega) ?_
        rw [hJJ]
        refine ⟨q + 1, _, _, _, by rw [show (-(q : Int) - 1) = -((q + 1 : Nat) : Int) by omega], rfl, rfl, by omega, by omega, ?_, rfl⟩
        have e : [x] = [y] := by assumption
        have k1 := drop_back hx
        have k2 := drop_back hy
        rw [show a1.length - (q + 1) + 1 = a1.length - q by omega] at k1
        rw [show b1.length - (q + 1) + 1 = b1.length - q by omega] at k2
        rw [k1, k2, hqq]
        injection e with e
        rw [e]
      · exact told (by assumption) (by rw [hXX]; exact ⟨q, tq, _, _, rfl, rfl, rfl, hqa, hqb, hqq⟩)
    all_goals exact told (by assumption) (by rw [hXX]; exact ⟨q, tq, _, _, rfl, rfl, rfl, hqa, hqb, hqq⟩)
  rintro _ _ _ s₂ hxx H₂
  rw [hXX] at hxx
  obtain ⟨q, tq, ta, tb, rfl, rfl, rfl, hqa, hqb, hqq⟩ := hxx
  clear hJJ hXX JJ XX
  have hD2 : dist subc a1 b1 = dist subc (a1.take (a1.length - q)) (b1.take (b1.length - q)) := by
    have := dist_post subc subc_nonneg subc_self (a1.drop (a1.length - q)) (a1.take (a1.length - q)) (b1.take (b1.length - q))
    rw [List.take_append_drop, hqq, List.take_append_drop] at this
    exact this
  rw [hD2] at hD
  have ha2 : ∀ x ∈ a1.take (a1.length - q), Sg x := fun x hx => ha1 x (List.mem_of_mem_take hx)
  have hb2 : ∀ x ∈ b1.take (b1.length - q), Sg x := fun x hx => hb1 x (List.mem_of_mem_take hx)
  have la2 : (a1.take (a1.length - q)).length ≤ 40 := by rw [List.length_take]; omega
  have lb2 : (b1.take (b1.length - q)).length ≤ 40 := by rw [List.length_take]; omega
  clear hD2
  repeat' (walk_at "gs")
  rename_i H₄
  generalize a1.take (a1.length - q) = a2 at hD ha2 la2 H₄
  generalize b1.take (b1.length - q) = b2 at hD hb2 lb2 H₄
  clear hqa hqb hqq la1 lb1 ha1 hb1 hpa hpb hpp
  repeat' (walk_at "gw")
  · refine h _ _ _ (.inl ?_) (FS.kept (by assumption))
    have e : (!!a2.isEmpty) = true := by assumption
    have e' : a2 = [] := by simpa using e
    rw [hD, e', dist_nil_left]; simp
  · refine h _ _ _ (.inl ?_) (FS.kept (by assumption))
    have e : (!!b2.isEmpty) = true := by assumption
    have e' : b2 = [] := by simpa using e
    rw [hD, e', dist_nil_right]; simp
  · exfalso; omega
  · exfalso; omega
  have na : a2 ≠ [] := by
    have e : (!!a2.isEmpty) = false := by assumption
    simpa using e
  have nb : b2 ≠ [] := by
    have e : (!!b2.isEmpty) = false := by assumption
    simpa using e
  have pa : 0 < a2.length := List.length_pos_iff.mpr na
  have pb : 0 < b2.length := List.length_pos_iff.mpr nb
  refine exCut (by assumption) (fun vs cvs led => ∃ (a3 b3 : List Nat) (ta tb : Tok), vs = [some (.str (S a3) ta), some (.str (S b3) tb), some (.int mc v), some (.int p tp), some (.int (-(q : Int)) tq), none, none, none, none, none, none, none, none, none] ∧ cvs = [] ∧ led = [] ∧ dist subc a b = dist subc a3 b3 ∧ (∀ x ∈ a3, Sg x) ∧ (∀ x ∈ b3, Sg x) ∧ 0 < a3.length ∧ a3.length ≤ b3.length ∧ b3.length ≤ 40) ?_ ?_
  · refine genQ fun Q3 hQ3 => ?_
    repeat' (walk_at "go")
    · refine swap2 (by assumption) hE hR.handled (by walk_at "at") (by walk_at "at") (by walk_at "put") (by walk_at "put") (by kernel_rfl) (by kernel_rfl) (by decide) rfl ?_; intro _ _
      repeat' (walk_at "go")
      rw [hQ3]
      exact cutNext (by assumption) ⟨b2, a2, _, _, rfl, rfl, rfl, hD.trans (dist_swap subc subc_comm _ _), hb2, ha2, pb, by omega, la2⟩
    · rw [hQ3]
      exact cutNext (by assumption) ⟨a2, b2, _, _, rfl, rfl, rfl, hD, ha2, hb2, pa, by omega, lb2⟩
  rintro _ _ _ s₃ ⟨a3, b3, ta3, tb3, rfl, rfl, rfl, hD3, ha3, hb3, pa3, hab3, lb3⟩ H₅
  clear hD ha2 hb2 la2 lb2 na nb pa pb
  repeat' (walk_at "go")
  · refine h _ _ _ (.inr ⟨?_, rfl⟩) (FS.kept (by assumption))
    have := dist_len subc subc_nonneg a3 b3
    rw [hD3]
    omega
  have hs2 := small_two ⟨a3.length, by omega⟩
  refine listRange (by assumption) hR.handled (by assumption) hs2.1 a3.length hs2.2 (by omega) ?_
  rename_i H₆ hr₆
  clear H₆ hr₆
  intro D ys s₆ H₆ hys hyt
  have hys0 : IntsAre ys (rowm subc a3 b3 0 0) := by
    rw [rowm_zero]
    refine ints_of_get ys _ (by rw [hys, rowv_len]) fun k m hm => ?_
    obtain ⟨hk, rfl⟩ := rowv_zero subc a3 b3 hm
    exact hyt k hk
  repeat' (walk_at "go")
  rename_i H₇ hr₇
  refine forX (led := [(D, PlO ys)]) [] hE hR H₇ hr₇ b3.length (small_n (by omega)).1 (small_n (by omega)).2
    (fun j vs cvs led => ∃ (P : Obj → Prop) (xs : List Value) (tr : Tok) (o1 o2 o3 o4 o5 o6 o7 : Option Value), vs = [some (.str (S a3) ta3), some (.str (S b3) tb3), some (.int mc v), some (.int p tp), some (.int (-(q : Int)) tq), some (.ref D), some (.int (if j = 0 then 0 else dd subc a3 b3 a3.length j) tr), o1, o2, o3, o4, o5, o6, o7] ∧ cvs = [] ∧ led = [(D, P)] ∧ (∀ o, P o → LstO xs o) ∧ IntsAre xs (rowm subc a3 b3 j 0))
    ⟨_, ys, _, _, _, _, _, _, _, _, rfl, rfl, rfl, fun o ho => ho.lst, hys0⟩ (by kernel_rfl) ?_ ?_
  · rintro j tj _ _ _ hj ⟨P, xs, tr, o1, o2, o3, o4, o5, o6, o7, rfl, rfl, rfl, hP, hxs⟩
    refine ⟨_, by walk_at "put", fun hid s₈ H₈ => genQ fun Q1 hQ1 => ?_⟩
    clear H₇ hr₇
    simp only [Int.zero_add, Int.mul_one] at H₈
    obtain ⟨y, hy⟩ := get_some (l := b3) (i := j) hj
    have hSy : Sg y := hb3 y (List.mem_of_getElem? hy)
    repeat' (walk_at "go")
    rename FS _ _ _ _ _ _ _ _ _ _ => hOld; refine idxSN hOld (k := j) (by omega) hy rfl ?_; clear hOld; intro _ _ _
    repeat' (walk_at "go")
    rename_i H₉ hr₉
    refine forX (led := [(D, P)]) hid hE hR H₉ hr₉ a3.length (small_n (by omega)).1 (small_n (by omega)).2
      (fun i vs cvs led => ∃ (P : Obj → Prop) (xs : List Value) (res mn : Int) (t1 t2 t3 t4 t5 : Tok) (o1 o2 o3 : Option Value), vs = [some (.str (S a3) ta3), some (.str (S b3) tb3), some (.int mc v), some (.int p tp), some (.int (-(q : Int)) tq), some (.ref D), some (.int res t1), some (.int (j : Int) t2), some (.str (S [y]) t3), some (.int (dd subc a3 b3 i j) t4), some (.int mn t5), o1, o2, o3] ∧ cvs = [] ∧ led = [(D, P)] ∧ (∀ o, P o → LstO xs o) ∧ IntsAre xs (rowm subc a3 b3 j i) ∧ (res = if i = 0 then 2 * (j : Int) else dd subc a3 b3 i (j + 1)) ∧ (∀ k, 1 ≤ k → k ≤ i → mn ≤ dd subc a3 b3 k (j + 1)))
      ⟨P, xs, (j : Int) * 2, _, _, _, _, _, _, _, _, _, by rw [dd_zero_left subc a3 b3 j (by omega), Int.mul_comm], rfl, rfl, hP, hxs, by rw [if_pos rfl, Int.mul_comm], fun k h1 h2 => by omega⟩ (by kernel_rfl) ?_ ?_
    · rintro i ti _ _ _ hi ⟨P, xs, res, mn, t1, t2, t3, t4, t5, o1, o2, o3, rfl, rfl, rfl, hP, hxs, hres, hmn⟩
      refine ⟨_, by walk_at "put", fun hid s₈ H₈ => genQ fun Q2 hQ2 => ?_⟩
      clear H₉ hr₉
      simp only [Int.zero_add, Int.mul_one] at H₈
      obtain ⟨x, hx⟩ := get_some (l := a3) (i := i) hi
      have hSx : Sg x := ha3 x (List.mem_of_getElem? hx)
      repeat' (walk_at "go")
      rename FS _ _ _ _ _ _ _ _ _ _ => hOld; refine idxSN hOld (k := i) (by omega) hx rfl ?_; clear hOld; intro _ _ _
      repeat' (walk_at "go")
      rename FS _ _ _ _ _ _ _ _ _ _ => hOld
      refine sub_call hR (hOld.gg (GG.st _)) hSy hSx ?_
      intro t9 s9 k9
      have H9 := hOld.keeps k9
      clear hOld k9
      rw [subc_comm y x]
      repeat' (walk_at "go")
      rename FS _ _ _ _ _ _ _ _ _ _ => hOld
      refine idxL' (hOld.lstQ (List.mem_cons_self) hP) hxs (by omega) (rowm_get subc a3 b3 hi) rfl ?_
      intro u9
      repeat' (walk_at "go")
      have hm := dd_step subc a3 b3 subc_le hx hy hres
      have hlen : xs.length = a3.length := by rw [hxs.length, rowm_len]
      rename FS _ _ _ _ _ _ _ _ _ _ => hOld
      refine setL' hOld (i := 0) rfl hP (by omega) (by omega) ?_
      clear hOld; intro s10 H10
      rw [hm] at H10
      have hxs' : ∀ t, IntsAre (xs.set i (.int (dd subc a3 b3 (i + 1) (j + 1)) t)) (rowm subc a3 b3 j (i + 1)) := fun t => by
        have := ints_set hxs i (dd subc a3 b3 (i + 1) (j + 1)) t
        rwa [rowm_set subc a3 b3 hi] at this
      repeat' (walk_at "go")
      · rw [hQ2]
        refine forNext [(D, LstO _)] (by assumption) ⟨_, _, _, _, _, _, _, _, _, _, _, _, rfl, rfl, rfl, fun o ho => ho, hxs' _, by rw [if_neg (by omega)], fun k h1 h2 => ?_⟩
        by_cases hk : k = i + 1
        · subst hk; exact Int.le_refl _
        · have := hmn k h1 (by omega)
          omega
      · rw [hQ2]
        refine forNext [(D, LstO _)] (by assumption) ⟨_, _, _, _, _, _, _, _, _, _, _, _, rfl, rfl, rfl, fun o ho => ho, hxs' _, by rw [if_neg (by omega)], fun k h1 h2 => ?_⟩
        by_cases hk : k = i + 1
        · subst hk; omega
        · exact hmn k h1 (by omega)
    · rintro _ _ _ s₈ ⟨P, xs, res, mn, t1, t2, t3, t4, t5, o1, o2, o3, rfl, rfl, rfl, hP, hxs, hres, hmn⟩ H₈
      clear H₉ hr₉
      rw [if_neg (by omega)] at hres
      rw [rowm_last, ← rowm_zero] at hxs
      repeat' (walk_at "go")
      · rw [hQ1]
        repeat' (walk_at "go")
        refine h _ _ _ (.inr ⟨?_, rfl⟩) (FS.kept (by assumption))
        have hmc : mc < mn := by assumption
        have := dd_early subc a3 b3 subc_nonneg subc_le (t := mc + 1) pa3 hj (fun k h1 h2 => by have := hmn k h1 h2; omega)
        rw [hD3]; omega
      · rw [hQ1]
        refine forNext [(D, P)] (by assumption) ⟨P, xs, _, _, _, _, _, _, _, _, by rw [if_neg (by omega), ← hres], rfl, rfl, hP, hxs⟩
  · rintro _ _ _ s₈ ⟨P, xs, tr, o1, o2, o3, o4, o5, o6, o7, rfl, rfl, rfl, hP, hxs⟩ H₈
    repeat' (walk_at "go")
    refine h _ _ _ (.inl ?_) (FS.kept (by assumption))
    rw [if_neg (by omega), dd_whole, hD3]
def bisLOk (ms : List Int) (x : Int) (lo hi r : Nat) : Prop := lo ≤ r ∧ r ≤ hi ∧ (∀ (k : Nat) (m : Int), lo ≤ k → k < r → ms[k]? = some m → m < x) ∧ (∀ (k : Nat) (m : Int), r ≤ k → k < hi → ms[k]? = some m → x ≤ m)
abbrev bisLJ (ms : List Int) (l : Addr) (x : Int) (t : Tok) (lo hi : Nat) : Inv := fun k vs cvs led => ∃ (a b : Nat) (t1 t2 : Tok) (o : Option Value), vs = [some (.ref l), some (.int x t), some (.int (a : Int) t1), some (.int (b : Int) t2), some .none, o] ∧ cvs = [] ∧ led = [] ∧ lo ≤ a ∧ a ≤ b ∧ b ≤ hi ∧ (∀ (k : Nat) (m : Int), lo ≤ k → k < a → ms[k]? = some m → m < x) ∧ (∀ (k : Nat) (m : Int), b ≤ k → k < hi → ms[k]? = some m → x ≤ m) ∧ k = b - a
abbrev bisLX (ms : List Int) (l : Addr) (x : Int) (t : Tok) (lo hi : Nat) : Pre := fun vs cvs led => ∃ (a : Nat) (t1 t2 : Tok) (o : Option Value), vs = [some (.ref l), some (.int x t), some (.int (a : Int) t1), some (.int (a : Int) t2), some .none, o] ∧ cvs = [] ∧ led = [] ∧ bisLOk ms x lo hi a
theorem bisL_call {A : Around} {s : Shared} {l : Addr} {xs : List Value} {ms : List Int} {x : Int} {lo hi : Nat} {t t1 t2 : Tok} {Q : Value → Shared → Prop} (hA : Room A 1) (g : GG w s.heap) (hl : s.heap.IsList l xs.toArray) (hi' : IntsAre xs ms) (hlh : lo ≤ hi) (hhn : hi ≤ ms.length) (hn : ms.length ≤ 900)
    (hs : ∀ (i j : Nat) (m m' : Int), lo ≤ i → i ≤ j → j < hi → ms[i]? = some m → ms[j]? = some m' → m' < x → m < x) (h : ∀ (r : Nat) t s', bisLOk ms x lo hi r → Keeps s s' → Q (.int r t) s') :
    wpAny (model prog w) A (call (.ref 32) [.ref l, .int x t, .int (lo : Int) t1, .int (hi : Int) t2]) Q (fun _ _ => False) s := by
  refine callP (G := GG w) [Str.ofString "a", Str.ofString "x", Str.ofString "lo", Str.ofString "hi", Str.ofString "key"] [.ref l, .int x t, .int (lo : Int) t1, .int (hi : Int) t2, .none] [Str.ofString "mid"] [] [Str.ofString "a", Str.ofString "x", Str.ofString "lo", Str.ofString "hi", Str.ofString "key", Str.ofString "mid"] [some (.ref l), some (.int x t), some (.int (lo : Int) t1), some (.int (hi : Int) t2), some (.none), none] [] _ hA (g.1 32 _ rfl) rfl g g.2.1 ⟨31, _, _, _, rfl, g.1 31 _ rfl, rfl, rfl⟩ rfl rfl (fun Q' E' q => kp_binds g.1 (fun _ => by kernel_rfl) _ _ _ _ q) (by kernel_rfl) rfl (by kernel_rfl) (by kernel_rfl) (by kernel_rfl) (by kernel_rfl) ?_
  intro env s₁ hE hR H
  dsimp only at hE
  have hlen : xs.length = ms.length := hi'.length
  repeat' (walk_at "go")
  · exfalso; omega
  refine whileX (by assumption) (bisLJ ms l x t lo hi)
    (bisLX ms l x t lo hi) (hi - lo)
    ⟨lo, hi, _, _, _, rfl, rfl, rfl, Nat.le_refl _, hlh, Nat.le_refl _, fun k m h1 h2 => by omega, fun k m h1 h2 => by omega, rfl⟩ ?_ ?_
  · rintro k _ _ _ s₂ ⟨a, b, t1, t2, o, rfl, rfl, rfl, hla, hab, hbh, hlo, hhi, rfl⟩ H₂
    repeat' (walk_at "go")
    · have hlt : a < b := by have : (a : Int) < (b : Int) := by assumption
                             omega
      have hmid : (a + b) / 2 < ms.length := by omega
      have hm' : ms[(a + b) / 2]? = some ms[(a + b) / 2] := List.getElem?_eq_getElem hmid
      generalize hmm : ms[(a + b) / 2] = mm at hm'
      rename FS _ _ _ _ _ _ _ _ _ _ => hOld
      refine idxL' (hOld.base hl) hi' (by omega) hm' rfl ?_
      intro u9
      repeat' (walk_at "go")
      · have hc : mm < x := by assumption
        exact turnNext (b - ((a + b) / 2 + 1)) (by assumption) (by omega) ⟨(a + b) / 2 + 1, b, _, _, _, rfl, rfl, rfl, by omega, by omega, hbh, fun k m h0 h1 hk => hs _ _ _ _ h0 (Nat.le_of_lt_succ h1) (by omega) hk hm' hc, hhi, rfl⟩
      · have hc : ¬ mm < x := by assumption
        refine turnNext ((a + b) / 2 - a) (by assumption) (by omega) ⟨a, (a + b) / 2, _, _, _, rfl, rfl, rfl, hla, by omega, by omega, hlo, fun k m h1 h2 hk => ?_, rfl⟩
        refine Int.not_lt.mp fun hq => hc (hs _ _ _ _ (by omega) h1 h2 hm' hk hq)
    · exact told (by assumption) ⟨a, t1, _, _, by rw [show b = a by omega], rfl, rfl, hla, by omega, fun k m h1 hk => hlo k m h1 hk, fun k m h1 h2 => hhi k m (by omega) h2⟩
  · rintro _ _ _ s₂ ⟨a, t1, t2, o, rfl, rfl, rfl, hok⟩ H₂
    repeat' (walk_at "go")
    exact h _ _ _ hok (FS.kept (by assumption))
abbrev bisKJ (K : Nat → Prop) (l fk : Addr) (x : Int) (t : Tok) (lo hi : Nat) : Inv := fun k vs cvs led => ∃ (a b : Nat) (t1 t2 : Tok) (o : Option Value), vs = [some (.ref l), some (.int x t), some (.int (a : Int) t1), some (.int (b : Int) t2), some (.ref fk), o] ∧ cvs = [] ∧ led = [] ∧ lo ≤ a ∧ a ≤ b ∧ b ≤ hi ∧ (∀ k : Nat, lo ≤ k → k < a → ¬ K k) ∧ (∀ k : Nat, b ≤ k → k < hi → K k) ∧ k = b - a
abbrev bisKX (K : Nat → Prop) (l fk : Addr) (x : Int) (t : Tok) (lo hi : Nat) : Pre := fun vs cvs led => ∃ (a : Nat) (t1 t2 : Tok) (o : Option Value), vs = [some (.ref l), some (.int x t), some (.int (a : Int) t1), some (.int (a : Int) t2), some (.ref fk), o] ∧ cvs = [] ∧ led = [] ∧ lo ≤ a ∧ a ≤ hi ∧ (∀ k : Nat, lo ≤ k → k < a → ¬ K k) ∧ (∀ k : Nat, a ≤ k → k < hi → K k)
/-- the search with a key: K tells which items lie behind -/
theorem bisK_call {A : Around} {s : Shared} {l fk : Addr} {xs : List Value} {x : Int} {lo hi : Nat} {t t1 t2 : Tok} {of : Obj} {fd : FuncData} {K : Nat → Prop} {Q : Value → Shared → Prop} (hA : Room A 4) (g : GG w s.heap) (hl : s.heap.IsList l xs.toArray) (hlh : lo ≤ hi) (hhn : hi ≤ xs.length) (hn : xs.length ≤ 900)
    (hof : s.heap.get? fk = some of) (hfd : of.data = .func fd)
    (hkey : ∀ (B : Around) (i : Nat) (v : Value) (s' : Shared) (Q' : Value → Shared → Prop), Room B 3 → lo ≤ i → i < hi → xs[i]? = some v → Keeps s s' → GG w s'.heap → (∀ r u s'', (x < r ↔ K i) → Keeps s' s'' → Q' (.int r u) s'') → wpAny (model prog w) B (call (.ref fk) [v]) Q' (fun _ _ => False) s')
    (hs : ∀ i j : Nat, lo ≤ i → i ≤ j → j < hi → K i → K j) (h : ∀ (r : Nat) t s', lo ≤ r → r ≤ hi → (∀ k, lo ≤ k → k < r → ¬ K k) → (∀ k, r ≤ k → k < hi → K k) → Keeps s s' → Q (.int r t) s') :
    wpAny (model prog w) A (call (.ref 23) [.ref l, .int x t, .int (lo : Int) t1, .int (hi : Int) t2] [(Str.ofString "key", .ref fk)]) Q (fun _ _ => False) s := by
  refine callP (G := GG w) [Str.ofString "a", Str.ofString "x", Str.ofString "lo", Str.ofString "hi", Str.ofString "key"] [.ref l, .int x t, .int (lo : Int) t1, .int (hi : Int) t2, .ref fk] [Str.ofString "mid"] [] [Str.ofString "a", Str.ofString "x", Str.ofString "lo", Str.ofString "hi", Str.ofString "key", Str.ofString "mid"] [some (.ref l), some (.int x t), some (.int (lo : Int) t1), some (.int (hi : Int) t2), some (.ref fk), none] [] _ hA (g.1 23 _ rfl) rfl g g.2.1 ⟨22, _, _, _, rfl, g.1 22 _ rfl, rfl, rfl⟩ rfl rfl (fun Q' E' q => kp_binds g.1 (fun _ => by kernel_rfl) _ _ _ _ q) (by kernel_rfl) rfl (by kernel_rfl) (by kernel_rfl) (by kernel_rfl) (by kernel_rfl) ?_
  intro env s₁ hE hR H
  dsimp only at hE
  repeat' (walk_at "go")
  · exfalso; omega
  refine whileX (by assumption) (bisKJ K l fk x t lo hi)
    (bisKX K l fk x t lo hi) (hi - lo)
    ⟨lo, hi, _, _, _, rfl, rfl, rfl, Nat.le_refl _, hlh, Nat.le_refl _, fun k h1 h2 => by omega, fun k h1 h2 => by omega, rfl⟩ ?_ ?_
  · rintro k _ _ _ s₂ ⟨a, b, t1, t2, o, rfl, rfl, rfl, hla, hab, hbh, hlo, hhi, rfl⟩ H₂
    repeat' (walk_at "go")
    · have hlt : a < b := by have : (a : Int) < (b : Int) := by assumption
                             omega
      have hmid : (a + b) / 2 < xs.length := by omega
      have hm' : xs[(a + b) / 2]? = some xs[(a + b) / 2] := List.getElem?_eq_getElem hmid
      generalize hmm : xs[(a + b) / 2] = mm at hm'
      refine callWith_def hfd ?_
      repeat' (walk_at "go")
      rename FS _ _ _ _ _ _ _ _ _ _ => hOld
      refine idxL (hOld.base hl) (by omega) (by omega) (x := mm) (by rw [Int.toNat_natCast]; exact hm') rfl ?_
      repeat' (walk_at "go")
      rename FS _ _ _ _ _ _ _ _ _ _ => hOld
      refine ⟨hOld.keep _ _ hof, ?_⟩
      refine hkey _ _ _ _ _ hR (by omega) (by omega) hm' hOld.kept (hOld.gg (GG.st _)) ?_
      intro r u9 s9 hr k9
      have H9 := hOld.keeps k9
      clear hOld k9
      repeat' (walk_at "go")
      · have hc : K ((a + b) / 2) := hr.mp (by assumption)
        exact turnNext ((a + b) / 2 - a) (by assumption) (by omega) ⟨a, (a + b) / 2, _, _, _, rfl, rfl, rfl, hla, by omega, by omega, hlo, fun k h1 h2 => hs _ _ (by omega) h1 h2 hc, rfl⟩
      · have hc : ¬ K ((a + b) / 2) := fun hq => absurd (hr.mpr hq) (by assumption)
        exact turnNext (b - ((a + b) / 2 + 1)) (by assumption) (by omega) ⟨(a + b) / 2 + 1, b, _, _, _, rfl, rfl, rfl, by omega, by omega, hbh, fun k h0 h1 hq => hc (hs _ _ h0 (Nat.le_of_lt_succ h1) (by omega) hq), hhi, rfl⟩
    · exact told (by assumption) ⟨a, t1, _, _, by rw [show b = a by omega], rfl, rfl, hla, by omega, hlo, fun k h1 h2 => hhi k (by omega) h2⟩
  · rintro _ _ _ s₂ ⟨a, t1, t2, o, rfl, rfl, rfl, h1, h2, h3, h4⟩ H₂
    repeat' (walk_at "go")
    exact h _ _ _ h1 h2 h3 h4 (FS.kept (by assumption))
theorem tells_call {A : Around} {s : Shared} {a b : List Nat} {due more : Int} {t u v z : Tok} {Q : Value → Shared → Prop} (hA : Room A 3) (g : GG w s.heap) (ha : ∀ x ∈ a, Sg x) (hb : ∀ x ∈ b, Sg x) (la : a.length ≤ 40) (lb : b.length ≤ 40)
    (hd : due = dist subc a b) (hm : 0 ≤ more) (h : ∀ s', Keeps s s' → Q (.bool true) s') :
    wpAny (model prog w) A (call (.ref 77) [.str (S a) t, .str (S b) u, .int due v, .int more z]) Q (fun _ _ => False) s := by
  refine callP (G := GG w) [Str.ofString "one", Str.ofString "other", Str.ofString "due", Str.ofString "more"] [.str (S a) t, .str (S b) u, .int due v, .int more z] [Str.ofString "less", Str.ofString "told"] [] [Str.ofString "one", Str.ofString "other", Str.ofString "due", Str.ofString "more", Str.ofString "less", Str.ofString "told"] [some (.str (S a) t), some (.str (S b) u), some (.int due v), some (.int more z), none, none] [] _ hA (g.1 77 _ rfl) rfl g g.2.1 ⟨76, _, _, _, rfl, g.1 76 _ rfl, rfl, rfl⟩ rfl rfl (fun Q' E' q => wpAny_pure q) (by kernel_rfl) rfl (by kernel_rfl) (by kernel_rfl) (by kernel_rfl) (by kernel_rfl) ?_
  intro env s₁ hE hR H
  dsimp only at hE
  repeat' (walk_at "go")
  rename FS _ _ _ _ _ _ _ _ _ _ => hOld
  refine lev_call hR (hOld.gg (GG.st _)) ha hb la lb ?_
  intro r t9 s9 hr k9
  have H9 := hOld.keeps k9
  clear hOld k9
  have er : r = due := by rcases hr with h | h <;> omega
  subst er
  repeat' (walk_at "go")
  rename FS _ _ _ _ _ _ _ _ _ _ => hOld
  refine lev_call hR (hOld.gg (GG.st _)) ha hb la lb ?_
  intro r' t9 s9 hr' k9
  have H9 := hOld.keeps k9
  clear hOld k9
  have er : r' = r := by rcases hr' with h | h <;> omega
  subst er
  repeat' (walk_at "go")
  · exact h _ (FS.kept (by assumption))
  all_goals (first | (exfalso; omega) | (simp_all; done))

/-- what a sign's letter is -/
def letter (f : Nat) : Nat := [0, 0, 1, 1, 2, 3].getD f 0
def sgn (f : Nat) : Nat := [97, 65, 107, 75, 123, 91].getD f 97
theorem letter_get : ∀ f, f < 6 → ([0, 0, 1, 1, 2, 3] : List Int)[f]? = some (letter f : Int) := by decide
theorem letter_call {A : Around} {s : Shared} {f : Nat} {t : Tok} {Q : Value → Shared → Prop} (hA : Room A 1) (g : GG w s.heap) (h1 : f < 6) (h : ∀ t s', Keeps s s' → Q (.int (letter f : Int) t) s') :
    wpAny (model prog w) A (call (.ref 65) [.int (f : Int) t]) Q (fun _ _ => False) s := by
  refine callP (G := GG w) [Str.ofString "f"] [.int (f : Int) t] [] [] [Str.ofString "f"] [some (.int (f : Int) t)] [] _ hA (g.1 65 _ rfl) rfl g g.2.1 ⟨64, _, _, _, rfl, g.1 64 _ rfl, rfl, rfl⟩ rfl rfl (fun Q' E' q => wpAny_pure q) (by kernel_rfl) rfl (by kernel_rfl) (by kernel_rfl) (by kernel_rfl) (by kernel_rfl) ?_
  intro env s₁ hE hR H
  dsimp only at hE
  repeat' (walk_at "go")
  rename FS _ _ _ _ _ _ _ _ _ _ => hOld
  refine idxL' (hOld.lstP List.mem_cons_self) (.cons _ _ (.cons _ _ (.cons _ _ (.cons _ _ (.cons _ _ (.cons _ _ .nil)))))) (by omega) (letter_get f h1) rfl ?_
  intro u9
  repeat' (walk_at "go")
  exact h _ _ (FS.kept (by assumption))
theorem signs_is : Str.ofString "aAkK{[" = S [97, 65, 107, 75, 123, 91] := by decide +kernel
theorem empty_is : Str.ofString "" = S [] := by decide +kernel
theorem sgn_get : ∀ f, f < 6 → ([97, 65, 107, 75, 123, 91] : List Nat)[f]? = some (sgn f) := by decide
theorem sgn_sg : ∀ f, f < 6 → Sg (sgn f) := by
  intro f hf
  have : f = 0 ∨ f = 1 ∨ f = 2 ∨ f = 3 ∨ f = 4 ∨ f = 5 := by omega
  rcases this with rfl | rfl | rfl | rfl | rfl | rfl <;> (unfold Sg sgn; decide)
/-- a sign of the text for a figure -/
def FigTo (v y : Value) : Prop := ∀ (f : Nat) (u : Tok), v = .int (f : Int) u → f < 6 → ∃ t, y = .str (S [sgn f]) t
theorem figs_texts : ∀ {xs ys : List Value} {fs : List Nat}, IntsAre xs (fs.map fun (f : Nat) => (f : Int)) → (∀ f ∈ fs, f < 6) → Paired FigTo xs ys → ∃ l : List (List Nat × Tok), ys = l.map (fun p => Value.str (S p.1) p.2) ∧ l.map (·.1) = fs.map fun f => [sgn f]
  | [], _, [], _, _, .nil => ⟨[], rfl, rfl⟩
  | _ :: xs, _, f :: fs, .cons _ t hi, hf, .cons h hp => by
    obtain ⟨l, e1, e2⟩ := figs_texts hi (fun g hg => hf g (List.mem_cons_of_mem _ hg)) hp
    obtain ⟨t', e⟩ := h f t rfl (hf f List.mem_cons_self)
    exact ⟨([sgn f], t') :: l, by simp [e, e1], by simp [e2]⟩
theorem compE {G : Heap → Prop} {own : Bool} {s₀ : Shared} {env : Env} {nk : List (Str × NameKind)} {scope : Scope} {cl : List (Str × Addr)} {C : Addr} {ns cns : List Str} {vs cvs : List (Option Value)} {led : Led} {s : Shared}
    (_H : FS G own s₀ (compEnvC scope cl C env) ns vs cns cvs led s) (hE : EnvIs env nk) (hk : scope.kind = .function) (hd : (compNames scope nk).lookup (Str.ofString "__debug__") = none) : EnvIs (compEnvC scope cl C env) (compNames scope nk) := compEnv_is hE hk cl C hd
theorem text_call {A : Around} {s : Shared} {l : Addr} {xs : List Value} {fs : List Nat} {Q : Value → Shared → Prop} (hA : Room A 1) (g : GG w s.heap) (hl : s.heap.IsList l xs.toArray) (hi : IntsAre xs (fs.map fun (f : Nat) => (f : Int))) (hf : ∀ f ∈ fs, f < 6) (hn : fs.length ≤ 900)
    (h : ∀ t s', Keeps s s' → Q (.str (S (fs.map sgn)) t) s') :
    wpAny (model prog w) A (call (.ref 58) [.ref l]) Q (fun _ _ => False) s := by
  refine callP (G := GG w) [Str.ofString "figures"] [.ref l] [] [] [Str.ofString "figures"] [some (.ref l)] [] _ hA (g.1 58 _ rfl) rfl g g.2.1 ⟨57, _, _, _, rfl, g.1 57 _ rfl, rfl, rfl⟩ rfl rfl (fun Q' E' q => wpAny_pure q) (by kernel_rfl) rfl (by kernel_rfl) (by kernel_rfl) (by kernel_rfl) (by kernel_rfl) ?_
  intro env s₁ hE hR H
  dsimp only at hE
  have hlen : xs.length = fs.length := by rw [hi.length, List.length_map]
  repeat' (walk_at "go")
  refine evComp FigTo (closureFor_none (by decide)) (by decide) rfl (by decide) (by kernel_rfl) ?_
  repeat' (walk_at "go")
  rename FS _ _ _ _ _ _ _ _ _ _ => hOld
  refine compGoL (GG.st _) hR.handled hOld (hOld.base hl) (size_1000 (by omega)) [] [] List.nodup_nil (fun y o a => by cases a) (fun x y c e => by cases e) ?_ ?_
  · intro C i v s₃ E' hv hk H₃
    have hE' := compE H₃ hE rfl (by kernel_rfl)
    clear hOld
    have hin : i < fs.length := by rw [← hlen]; exact (List.getElem?_eq_some_iff.mp hv).1
    obtain ⟨f, hfi⟩ := get_some hin
    have hf6 : f < 6 := hf f (List.mem_of_getElem? hfi)
    obtain ⟨t0, e0⟩ := ints_get hi (i := i) (m := (f : Int)) (by rw [List.getElem?_map, hfi]; rfl)
    rw [hv] at e0
    cases e0
    repeat' (walk_at "go")
    rw [signs_is]
    rename FS _ _ _ _ _ _ _ _ _ _ => hOld
    refine idxS hOld (by constructor <;> omega) (j := f) (by rw [if_neg (by omega)]) (sgn_get f hf6) rfl ?_
    intro t9 s9 H9
    refine ⟨fun f' u' e' _ => ?_, H9.kept⟩
    cases e'
    exact ⟨t9, rfl⟩
  · intro D ys s₃ H₃ hp
    obtain ⟨l', e1, e2⟩ := figs_texts hi hf hp
    subst e1
    clear hOld
    repeat' (walk_at "go")
    rename FS _ _ _ _ _ _ _ _ _ _ => hOld
    rw [empty_is]
    refine joinS hOld (hOld.lstP List.mem_cons_self) ?_ ?_
    · rw [e2, List.map_map]
      refine size_1000 ?_
      have : ∀ k : List Nat, (k.map (List.length ∘ fun f => [sgn f])).sum = k.length := by
        intro k; induction k with
        | nil => rfl
        | cons a r ih => simp only [List.map_cons, List.sum_cons, ih, Function.comp, List.length_cons, List.length_nil]; omega
      rw [this]; omega
    · intro t9 s9 H9
      rw [e2]
      have : (fs.map fun f => [sgn f]).flatten = fs.map sgn := by
        clear h hi hf hn hlen e2
        induction fs with
        | nil => rfl
        | cons a r ih => simp only [List.map_cons, List.flatten_cons, ih, List.cons_append, List.nil_append]
      rw [this]
      exact h _ _ H9.kept
theorem fig_call {A : Around} {s : Shared} {l : Addr} {xs : List Value} {ns : List Int} {Q : Value → Shared → Prop} (hA : Room A 1) (g : GG w s.heap) (hl : s.heap.IsList l xs.toArray) (hi : IntsAre xs ns) (hn : ns.length ≤ 63)
    (h : ∀ D ys (fs : List Nat) s', Keeps s s' → s.heap.get? D = none → s'.heap.IsList D ys.toArray → IntsAre ys (fs.map fun (f : Nat) => (f : Int)) → fs.length = 8 → (∀ f ∈ fs, f < 6) → Q (.ref D) s') :
    wpAny (model prog w) A (call (.ref 53) [.ref l]) Q (fun _ _ => False) s := by
  refine callP (G := GG w) [Str.ofString "script"] [.ref l] [Str.ofString "figures", Str.ofString "k"] [] [Str.ofString "script", Str.ofString "figures", Str.ofString "k"] [some (.ref l), none, none] [] _ hA (g.1 53 _ rfl) rfl g g.2.1 ⟨52, _, _, _, rfl, g.1 52 _ rfl, rfl, rfl⟩ rfl rfl (fun Q' E' q => wpAny_pure q) (by kernel_rfl) rfl (by kernel_rfl) (by kernel_rfl) (by kernel_rfl) (by kernel_rfl) ?_
  intro env s₁ hE hR H
  dsimp only at hE
  have hlen : xs.length = ns.length := hi.length
  repeat' (walk_at "go")
  rename_i D _ _ _ _ _ _ _ _ _ _ _ _ H₇ hr₇
  rw [show min (24 : Int) (xs.length : Int) = ((min 24 xs.length : Nat) : Int) by omega] at hr₇
  refine forX (led := [(_, PlO _)]) [] hE hR H₇ hr₇ (min 24 xs.length) (small_n (by omega)).1 (small_n (by omega)).2
    (fun j vs cvs led => ∃ (P : Obj → Prop) (ys : List Value) (fs : List Nat) (D : Addr) (o1 : Option Value), vs = [some (.ref l), some (.ref D), o1] ∧ cvs = [] ∧ led = [(D, P)] ∧ (∀ o, P o → LstO ys o) ∧ IntsAre ys (fs.map fun (f : Nat) => (f : Int)) ∧ fs.length = 8 ∧ (∀ f ∈ fs, f < 6))
    ⟨_, _, [0, 3, 5, 3, 0, 0, 2, 4], _, _, rfl, rfl, rfl, fun o ho => ho.lst, by exact .cons _ _ (.cons _ _ (.cons _ _ (.cons _ _ (.cons _ _ (.cons _ _ (.cons _ _ (.cons _ _ (.nil)))))))), rfl, by decide⟩ (by kernel_rfl) ?_ ?_
  · rintro j tj _ _ _ hj ⟨P, ys, fs, D, o1, rfl, rfl, rfl, hP, hys, hfl, hf6⟩
    refine ⟨_, by walk_at "put", fun hid s₈ H₈ => genQ fun Q1 hQ1 => ?_⟩
    clear H₇ hr₇
    simp only [Int.zero_add, Int.mul_one] at H₈
    have hmod : Int.fmod (j : Int) 8 = ((j % 8 : Nat) : Int) := by rw [Int.fmod_eq_emod_of_nonneg _ (by decide)]; omega
    obtain ⟨f, hfj⟩ := get_some (l := fs) (i := j % 8) (by omega)
    obtain ⟨m, hmj⟩ : ∃ m, ns[j]? = some m := ⟨ns[j]'(by omega), List.getElem?_eq_getElem (by omega)⟩
    have hyl : ys.length = 8 := by rw [hys.length, List.length_map, hfl]
    repeat' (walk_at "go")
    rw [hmod]
    rename FS _ _ _ _ _ _ _ _ _ _ => hOld
    refine idxL' (hOld.lstQ List.mem_cons_self hP) hys (by omega) (k := j % 8) (m := (f : Int)) (by rw [List.getElem?_map, hfj]; rfl) rfl ?_
    intro u9
    repeat' (walk_at "go")
    rename FS _ _ _ _ _ _ _ _ _ _ => hOld
    refine idxL' (hOld.base hl) hi (by omega) hmj rfl ?_
    intro u9
    repeat' (walk_at "go")
    rw [hmod]
    obtain ⟨f', hf', hfm⟩ : ∃ f' : Nat, f' < 6 ∧ Int.fmod ((f : Int) + m) 6 = (f' : Int) := by
      refine ⟨(Int.fmod ((f : Int) + m) 6).toNat, ?_, ?_⟩ <;> (rw [Int.fmod_eq_emod_of_nonneg _ (by decide)]; omega)
    rw [hfm]
    rename FS _ _ _ _ _ _ _ _ _ _ => hOld
    refine setL' hOld (i := 0) rfl hP (by omega) (by omega) ?_
    clear hOld; intro s10 H10
    repeat' (walk_at "go")
    rw [hQ1]
    refine forNext [(D, LstO _)] (by assumption) ⟨_, _, fs.set (j % 8) f', D, _, rfl, rfl, rfl, fun o ho => ho, ?_, by rw [List.length_set, hfl], fun x hx => ?_⟩
    · rw [List.map_set]; exact ints_set hys _ _ _
    · rcases List.mem_or_eq_of_mem_set hx with hx | rfl
      · exact hf6 x hx
      · exact hf'
  · rintro _ _ _ s₈ ⟨P, ys, fs, D, o1, rfl, rfl, rfl, hP, hys, hfl, hf6⟩ H₈
    repeat' (walk_at "go")
    rename FS _ _ _ _ _ _ _ _ _ _ => hOld
    exact h D ys fs _ hOld.kept (hOld.has (D, P) List.mem_cons_self).2.2 (hOld.lstQ List.mem_cons_self hP) hys hfl hf6
theorem ints_rep (v : Int) (t : Tok) : ∀ n : Nat, IntsAre (List.replicate n (.int v t)) (List.replicate n v)
  | 0 => .nil
  | n + 1 => .cons v t (ints_rep v t n)
theorem sgn_inj : ∀ f, f < 6 → ∀ g, g < 6 → (subc (sgn f) (sgn g) = 0 ↔ f = g) := by decide
theorem sgn_let : ∀ f, f < 6 → ∀ g, g < 6 → (subc (sgn f) (sgn g) ≤ 1 ↔ letter f = letter g) := by decide
theorem subc_three (x y : Nat) : subc x y = 0 ∨ subc x y = 1 ∨ subc x y = 2 := by unfold subc; split <;> (try split) <;> simp
theorem pick_1m1 (items : Array Value) (hs : 2 ≤ items.size) : slicePick items (some 1) (some (-1)) none = ((items.toList.drop 1).take (items.size - 2)).toArray := by
  have e : sliceBounds (some 1) (some (-1)) none items.size = (((1 : Nat) : Int), ((items.size - 1 : Nat) : Int), 1) := by
    simp only [sliceBounds, Option.getD_none, show (1 : Int) > 0 by decide, if_true, if_neg (show ¬ ((1 : Int) < 0) by decide), if_pos (show (-1 : Int) < 0 by decide)]
    congr 1
    · omega
    · congr 1
      omega
  rw [kmk_pick_nat _ e]
  congr 2
theorem reaches_call {A : Around} {s : Shared} {lw lt : Addr} {xs ys : List Value} {wf tf : List Nat} {Q : Value → Shared → Prop} (hA : Room A 2) (g : GG w s.heap) (hlw : s.heap.IsList lw xs.toArray) (hiw : IntsAre xs (wf.map fun (f : Nat) => (f : Int)))
    (hlt : s.heap.IsList lt ys.toArray) (hit : IntsAre ys (tf.map fun (f : Nat) => (f : Int))) (hwn : wf.length ≤ 4) (htn : tf.length ≤ 4) (hw6 : ∀ f ∈ wf, f < 6) (ht6 : ∀ f ∈ tf, f < 6)
    (h : ∀ D zs ms s', Keeps s s' → s.heap.get? D = none → s'.heap.IsList D zs.toArray → IntsAre zs ms → ReachesAre (wf.map sgn) (tf.map sgn) (2 * max wf.length tf.length) ms → Q (.ref D) s') :
    wpAny (model prog w) A (call (.ref 70) [.ref lw, .ref lt]) Q (fun _ _ => False) s := by
  refine callP (G := GG w) [Str.ofString "word", Str.ofString "text"] [.ref lw, .ref lt] [Str.ofString "m", Str.ofString "n", Str.ofString "k", Str.ofString "rows", Str.ofString "cost", Str.ofString "at", Str.ofString "end", Str.ofString "near", Str.ofString "place"] [Str.ofString "costs"] [Str.ofString "word", Str.ofString "text", Str.ofString "m", Str.ofString "n", Str.ofString "k", Str.ofString "rows", Str.ofString "cost", Str.ofString "at", Str.ofString "end", Str.ofString "near", Str.ofString "place"] [some (.ref lw), some (.ref lt), none, none, none, none, none, none, none, none, none] [none] _ hA (g.1 70 _ rfl) rfl g g.2.1 ⟨69, _, _, _, rfl, g.1 69 _ rfl, rfl, rfl⟩ rfl rfl (fun Q' E' q => wpAny_pure q) (by kernel_rfl) rfl (by kernel_rfl) (by kernel_rfl) (by kernel_rfl) (by kernel_rfl) ?_
  intro env s₁ hE hR H
  dsimp only at hE
  have hxl : xs.length = wf.length := by rw [hiw.length, List.length_map]
  have hyl : ys.length = tf.length := by rw [hit.length, List.length_map]
  repeat' (walk_at "go")
  rename FS _ _ _ _ _ _ _ _ _ _ => hOld
  obtain ⟨u, hu⟩ : ∃ u, u = wf.map sgn := ⟨_, rfl⟩
  obtain ⟨v, hv⟩ : ∃ v, v = tf.map sgn := ⟨_, rfl⟩
  have hul : u.length = wf.length := by rw [hu, List.length_map]
  have hvl : v.length = tf.length := by rw [hv, List.length_map]
  obtain ⟨C, hC⟩ : ∃ C, C = 2 * max wf.length tf.length := ⟨_, rfl⟩
  obtain ⟨N, hN⟩ : ∃ N, N = u.length + v.length + 3 := ⟨_, rfl⟩
  rw [← hu, ← hv, ← hC] at h
  rw [hxl, hyl, show (2 * max (wf.length : Int) (tf.length : Int)) = (C : Int) by omega] at hOld
  obtain ⟨cc, hcc, hccv⟩ := hOld.cell (x := Str.ofString "costs") (v := .int (C : Int) _) .head
  have hC8 : C ≤ 8 := by omega
  have hN' : N = wf.length + tf.length + 3 := by rw [hN, hul, hvl]
  have hN11 : N ≤ 11 := n_6 hN' hwn htn
  have hxl1 : xs.length ≤ 1000 := Nat.le_trans (Nat.le_of_eq hxl) (Nat.le_trans hwn (by decide))
  have hyl1 : ys.length ≤ 1000 := Nat.le_trans (Nat.le_of_eq hyl) (Nat.le_trans htn (by decide))
  clear hC
  refine exComp1R (GG.st _) hE hR.handled hOld (by kernel_rfl) _ (fun D => by walk_at "put") rfl (by decide) (closureFor_is (cl := [(Str.ofString "costs", cc)]) (by simp [clOf, hcc])) (by decide) rfl (by decide) (by kernel_rfl) (by kernel_rfl) inj_one
    0 N (fun i refs led => RowsAre refs led i (fun _ => List.replicate (C + 2) (-99))) (Nat.le_trans hN11 (by decide)) ?_ ⟨rfl, rfl, fun k hk => by omega⟩ ?_ ?_
  · clear hccv
    repeat' (walk_at "go")
    rename_i H9 hr9
    rw [n_5 hN'] at hr9
    exact ⟨H9, _, _, _, _, _, rfl, hr9, (small_n (Nat.le_trans hN11 (by decide))).1, (small_n (Nat.le_trans hN11 (by decide))).2⟩
  · intro C' s₁ i tk refs led' hid s₃ hi hJ HA HB
    obtain ⟨cc', hcc', hccv'⟩ := HA.cell (x := Str.ofString "costs") (v := .int (C : Int) _) .head
    rw [hcc] at hcc'
    cases hcc'
    clear HA hOld hccv
    have hE' := compE HB hE rfl (by kernel_rfl)
    repeat' (walk_at "go")
    rename FS _ _ _ _ _ _ _ _ _ _ => hOld
    refine nmC0 hOld hE' (c := cc) (by simp [compEnvC]) hccv' (by kernel_rfl) ?_
    repeat' (walk_at "go")
    rename FS _ _ _ _ _ _ _ _ _ _ => hOld
    refine mulL hOld List.mem_cons_self ⟨by omega, by omega⟩ ?_
    clear hOld; intro b s9 H9
    rw [show ((C : Int) + 2).toNat = C + 2 by omega] at H9
    have H10 := H9.back2
    exact ⟨_, hJ.snoc (ints_rep _ _ _), H10⟩
  intro D refs rl s₄ hJ H₄
  clear hOld hccv
  rw [List.append_nil] at H₄
  repeat' (walk_at "go")
  rename_i H7 hr7
  refine forX (led := rl ++ [(D, PlO refs)]) [] hE hR H7.nil hr7 C (small_n (Nat.le_trans hC8 (by decide))).1 (small_n (Nat.le_trans hC8 (by decide))).2
    (fun cost vs cvs led => ∃ (R : Nat → List Int) (rl : Led) (t1 t2 t3 : Tok) (o1 o2 o3 o4 o5 o6 : Option Value), vs = [some (.ref lw), some (.ref lt), some (.int (wf.length : Int) t1), some (.int (tf.length : Int) t2), o1, some (.ref D), o2, o3, o4, o5, o6] ∧ cvs = [some (.int (C : Int) t3)] ∧ led = rl ++ [(D, PlO refs)] ∧ RowsAre refs rl N R ∧ Done u v C N cost 0 R)
    ⟨_, rl, _, _, _, _, _, _, _, _, _, rfl, rfl, rfl, hJ, Done.zero hN⟩ (by kernel_rfl) ?_ ?_
  · clear H7 hr7 hJ
    rintro cost tk _ _ _ hcost ⟨R, rl, t1, t2, t3, o1, o2, o3, o4, o5, o6, rfl, rfl, rfl, hrows, hdone⟩
    refine ⟨_, by walk_at "put", fun hid s₈ H₈ => genQ fun Q1 hQ1 => ?_⟩
    simp only [Int.zero_add, Int.mul_one] at H₈
    repeat' (walk_at "go")
    rename_i H7 hr7
    rw [n_4 hN'] at hr7
    have hsm := small_ab (a := 1) (b := ((N - 1 : Nat) : Int)) (by decide) (n_8 hN11)
    rw [n_2 hN'] at hsm
    refine forX (led := rl ++ [(D, PlO refs)]) hid hE hR H7 hr7 (N - 2) hsm.1 hsm.2
      (fun i vs cvs led => ∃ (R : Nat → List Int) (rl : Led) (t1 t2 t3 t4 : Tok) (o1 o3 o4 o5 o6 : Option Value), vs = [some (.ref lw), some (.ref lt), some (.int (wf.length : Int) t1), some (.int (tf.length : Int) t2), o1, some (.ref D), some (.int (cost : Int) t4), o3, o4, o5, o6] ∧ cvs = [some (.int (C : Int) t3)] ∧ led = rl ++ [(D, PlO refs)] ∧ RowsAre refs rl N R ∧ Done u v C N cost (i + 1) R)
      ⟨R, rl, _, _, _, _, _, _, _, _, _, rfl, rfl, rfl, hrows, hdone.one⟩ (by kernel_rfl) ?_ ?_
    · clear H7 hr7 hrows hdone R rl
      rintro i ti _ _ _ hi ⟨R, rl, t1, t2, t3, t4, o1, o3, o4, o5, o6, rfl, rfl, rfl, hrows, hdone⟩
      refine ⟨_, by walk_at "put", fun hid s₈ H₈ => genQ fun Q2 hQ2 => ?_⟩
      rw [c_1 i] at H₈
      have b2 : i + 2 < N := by omega
      have b1 : i + 1 < N := Nat.lt_of_succ_lt b2
      have b0 : i < N := Nat.lt_of_succ_lt b1
      have b3 : cost + 1 < C + 2 := Nat.succ_lt_succ (Nat.lt_succ_of_lt hcost)
      have b4 : cost < C + 2 := Nat.lt_of_succ_lt b3
      obtain ⟨a0, x0, p0, hr0, hl0, hp0, hi0⟩ := hrows.2.2 i b0
      obtain ⟨a1, x1, p1, hr1, hl1, hp1, hi1⟩ := hrows.2.2 (i + 1) b1
      obtain ⟨a2, x2, p2, hr2, hl2, hp2, hi2⟩ := hrows.2.2 (i + 2) b2
      have hrefs : refs.length = N := hrows.1
      have hrll : rl.length = N := hrows.2.1
      obtain ⟨near, hnear, hRn⟩ := (hdone (i + 1) b1).2 (cost + 1) b3 (.inl (Nat.lt_succ_self _))
      obtain ⟨s1, hs1, hR1⟩ := (hdone (i + 1) b1).2 cost b4 (.inl (Nat.lt_succ_of_lt (Nat.lt_succ_self _)))
      obtain ⟨s2, hs2, hR2⟩ := (hdone i b0).2 cost b4 (.inl (Nat.lt_succ_of_lt (Nat.lt_succ_self _)))
      obtain ⟨s3, hs3, hR3⟩ := (hdone (i + 2) b2).2 cost b4 (.inl (Nat.lt_succ_of_lt (Nat.lt_succ_self _)))
      obtain ⟨k, hk⟩ : ∃ k : Int, k = (i : Int) - wf.length := ⟨_, rfl⟩
      have hku : k = (i : Int) - (u.length : Int) := by rw [hul]; exact hk
      rw [c_k1 hku, c_c] at hRn
      rw [c_k1 hku] at hR1
      rw [c_k0 hku] at hR2
      rw [c_k2 hku] at hR3
      have hx0l : x0.length ≤ 1000 := by rw [hi0.length, (hdone i b0).1]; omega
      have hx1l : x1.length ≤ 1000 := by rw [hi1.length, (hdone (i + 1) b1).1]; omega
      have hx2l : x2.length ≤ 1000 := by rw [hi2.length, (hdone (i + 2) b2).1]; omega
      have hrefs1 : refs.length ≤ 1000 := Nat.le_trans (Nat.le_of_eq hrefs) (Nat.le_trans hN11 (by decide))
      have kn : k ≤ (v.length : Int) := by omega
      have km : -(u.length : Int) ≤ k := by omega
      have he0 : 0 ≤ (cost : Int) := Int.natCast_nonneg _
      have he50 : (cost : Int) ≤ 50 := by omega
      have hm0 : (a0, p0) ∈ rl := List.mem_of_getElem? hl0
      have hm1 : (a1, p1) ∈ rl := List.mem_of_getElem? hl1
      have hm2 : (a2, p2) ∈ rl := List.mem_of_getElem? hl2
      repeat' (walk_at "go")
      rename FS _ _ _ _ _ _ _ _ _ _ => hOld
      obtain ⟨en, hen⟩ : ∃ en : Int, en = enD u v k := ⟨_, rfl⟩
      rw [c_k1 hk, show min (wf.length : Int) ((tf.length : Int) - k) = en by rw [hen, ← hul, ← hvl]; rfl] at hOld
      have mD : ∀ hid : Led, (D, PlO refs) ∈ rl ++ [(D, PlO refs)] ++ hid := fun hid => List.mem_append_left _ (List.mem_append_right _ List.mem_cons_self)
      refine idxN (hOld.lstP (mD _)) hrefs1 hr1 rfl ?_
      repeat' (walk_at "go")
      rename FS _ _ _ _ _ _ _ _ _ _ => hOld
      rw [c_s1 cost]
      refine idxN' (hOld.lstQ (List.mem_append_left _ (List.mem_append_left _ hm1)) hp1) hi1 hx1l hnear rfl ?_
      intro u1
      repeat' (walk_at "go")
      rename FS _ _ _ _ _ _ _ _ _ _ => hOld
      refine idxN (hOld.lstP (mD _)) hrefs1 hr1 rfl ?_
      repeat' (walk_at "go")
      rename FS _ _ _ _ _ _ _ _ _ _ => hOld
      refine idxN' (hOld.lstQ (List.mem_append_left _ (List.mem_append_left _ hm1)) hp1) hi1 hx1l hs1 rfl ?_
      intro u2
      repeat' (walk_at "go")
      rename FS _ _ _ _ _ _ _ _ _ _ => hOld
      rw [c_m1 i]
      refine idxN (hOld.lstP (mD _)) hrefs1 hr0 rfl ?_
      repeat' (walk_at "go")
      rename FS _ _ _ _ _ _ _ _ _ _ => hOld
      refine idxN' (hOld.lstQ (List.mem_append_left _ (List.mem_append_left _ hm0)) hp0) hi0 hx0l hs2 rfl ?_
      intro u3
      repeat' (walk_at "go")
      rename FS _ _ _ _ _ _ _ _ _ _ => hOld
      rw [c_p1 i]
      refine idxN (hOld.lstP (mD _)) hrefs1 hr2 rfl ?_
      repeat' (walk_at "go")
      rename FS _ _ _ _ _ _ _ _ _ _ => hOld
      refine idxN' (hOld.lstQ (List.mem_append_left _ (List.mem_append_left _ hm2)) hp2) hi2 hx2l hs3 rfl ?_
      intro u4
      repeat' (walk_at "gi")
      have S0 : Src subc u v k (cost : Int) (max (max (max near (s1 + 1)) s2) (s3 + 1)) :=
        src_max subc u v (src_max subc u v (src_max subc u v (src_near subc u v hRn) (src_sub subc u v subc_nonneg subc_le hR1)) (src_ins subc u v subc_nonneg kn hR2)) (src_del subc u v subc_nonneg km hR3)
      obtain ⟨z0, hz0⟩ : ∃ z : Int, z = max (max (max near (s1 + 1)) s2) (s3 + 1) := ⟨_, rfl⟩
      rename FS _ _ _ _ _ _ _ _ _ _ => hOld
      rw [← hz0] at S0 hOld
      have z1 : near ≤ z0 := by rw [hz0]; exact Int.le_trans (Int.le_trans (Int.le_max_left _ _) (Int.le_max_left _ _)) (Int.le_max_left _ _)
      have z2 : s1 + 1 ≤ z0 := by rw [hz0]; exact Int.le_trans (Int.le_trans (Int.le_max_right _ _) (Int.le_max_left _ _)) (Int.le_max_left _ _)
      have z3 : s2 ≤ z0 := by rw [hz0]; exact Int.le_trans (Int.le_max_right _ _) (Int.le_max_left _ _)
      have z4 : s3 + 1 ≤ z0 := by rw [hz0]; exact Int.le_max_right _ _
      clear hz0
      refine exCut hOld (fun vs cvs led => ∃ (pl : Int) (tk' te tp : Tok), vs = [some (.ref lw), some (.ref lt), some (.int (wf.length : Int) t1), some (.int (tf.length : Int) t2), some (.int k tk'), some (.ref D), some (.int (cost : Int) t4), some (.int ((i + 1 : Nat) : Int) ti), some (.int en te), some (.int near u1), some (.int pl tp)] ∧ cvs = [some (.int (C : Int) t3)] ∧ led = rl ++ [(D, PlO refs)] ++ hid ∧ Src subc u v k (cost : Int) pl ∧ z0 ≤ pl ∧ (∀ (i' j' a b : Nat), near = i' → (j' : Int) = (i' : Int) + k → u[i']? = some a → v[j']? = some b → subc a b ≤ 1 → (i' : Int) + 1 ≤ pl)) ?_ ?_
      · refine genQ fun Q3 hQ3 => ?_
        repeat' (walk_at "go")
        · have hn0 : 0 ≤ near := by assumption
          have hne : near < en := by assumption
          rcases hRn.1 with hneg | ⟨p, j, rfl, hd⟩
          · exfalso; omega
          obtain ⟨hd1, hd2, hd3⟩ := hd
          obtain ⟨hp1', hj1'⟩ := enD_lt (hen ▸ hne) hd1
          obtain ⟨f, hf⟩ := get_some (l := wf) (i := p) (by rw [← hul]; exact hp1')
          obtain ⟨f', hf'⟩ := get_some (l := tf) (i := j) (by rw [← hvl]; exact hj1')
          have hf6 := hw6 f (List.mem_of_getElem? hf)
          have hf6' := ht6 f' (List.mem_of_getElem? hf')
          have hup : u[p]? = some (sgn f) := by rw [hu, List.getElem?_map, hf]; rfl
          have hvj : v[j]? = some (sgn f') := by rw [hv, List.getElem?_map, hf']; rfl
          rename FS _ _ _ _ _ _ _ _ _ _ => hOld
          refine idxN' (hOld.base hlw) hiw hxl1 (k := p) (m := (f : Int)) (by rw [List.getElem?_map, hf]; rfl) rfl ?_
          intro u5
          repeat' (walk_at "go")
          rename FS _ _ _ _ _ _ _ _ _ _ => hOld
          refine letter_call (hR.less (by decide)) (hOld.gg (GG.st _)) hf6 ?_
          intro t9 s9 k9
          have H9 := hOld.keeps k9
          clear hOld k9
          repeat' (walk_at "go")
          rename FS _ _ _ _ _ _ _ _ _ _ => hOld
          rw [← hd1]
          refine idxN' (hOld.base hlt) hit hyl1 (k := j) (m := (f' : Int)) (by rw [List.getElem?_map, hf']; rfl) rfl ?_
          intro u6
          repeat' (walk_at "go")
          rename FS _ _ _ _ _ _ _ _ _ _ => hOld
          refine letter_call (hR.less (by decide)) (hOld.gg (GG.st _)) hf6' ?_
          intro t9 s9 k9
          have H9 := hOld.keeps k9
          clear hOld k9
          have hlet := sgn_let f hf6 f' hf6'
          repeat' (walk_at "go")
          · have he : (letter f : Int) = (letter f' : Int) := by assumption
            rw [hQ3]
            refine cutNext (by assumption) ⟨_, _, _, _, rfl, rfl, rfl, src_max subc u v S0 (src_letter subc u v subc_nonneg hRn hd1 hup hvj (hlet.mpr (by omega))), by omega, fun i' j' a b e1 e2 e3 e4 e5 => by omega⟩
          · have he : ¬ (letter f : Int) = (letter f' : Int) := by assumption
            rw [hQ3]
            refine cutNext (by assumption) ⟨_, _, _, _, rfl, rfl, rfl, S0, Int.le_refl _, fun i' j' a b e1 e2 e3 e4 e5 => ?_⟩
            exfalso
            have e6 : i' = p := by omega
            subst e6
            have e7 : j' = j := by omega
            subst e7
            rw [hup] at e3
            rw [hvj] at e4
            cases e3; cases e4
            have := hlet.mp e5
            omega
        · have hc : ¬ near < en := by assumption
          rw [hQ3]
          refine cutNext (by assumption) ⟨_, _, _, _, rfl, rfl, rfl, S0, Int.le_refl _, fun i' j' a b e1 e2 e3 e4 e5 => ?_⟩
          exfalso
          exact enD_ge (hen ▸ hc) e1 e2 e3 e4
        · have hc : ¬ 0 ≤ near := by assumption
          rw [hQ3]
          exact cutNext (by assumption) ⟨_, _, _, _, rfl, rfl, rfl, S0, Int.le_refl _, fun i' j' a b e1 e2 e3 e4 e5 => by omega⟩
      clear hOld S0
      rintro _ _ _ s9 ⟨pl, tk', te, tp, rfl, rfl, rfl, S1, hz1, hll⟩ H9
      refine exCut H9 (fun vs cvs led => ∃ (pl' : Int) (tp : Tok), vs = [some (.ref lw), some (.ref lt), some (.int (wf.length : Int) t1), some (.int (tf.length : Int) t2), some (.int k tk'), some (.ref D), some (.int (cost : Int) t4), some (.int ((i + 1 : Nat) : Int) ti), some (.int en te), some (.int near u1), some (.int pl' tp)] ∧ cvs = [some (.int (C : Int) t3)] ∧ led = rl ++ [(D, PlO refs)] ++ hid ∧ Src subc u v k (cost : Int) pl' ∧ pl ≤ pl' ∧ (k = 0 → 0 ≤ pl')) ?_ ?_
      · refine genQ fun Q3 hQ3 => ?_
        repeat' (walk_at "go")
        · have hk0 : k = 0 := by assumption
          rw [hQ3]
          refine cutNext (by assumption) ⟨_, _, rfl, rfl, rfl, src_max subc u v S1 (by rw [hk0]; exact src_zero subc u v he0), Int.le_max_left _ _, fun _ => Int.le_max_right _ _⟩
        · have hk0 : ¬ k = 0 := by assumption
          rw [hQ3]
          exact cutNext (by assumption) ⟨_, _, rfl, rfl, rfl, S1, Int.le_refl _, fun e => absurd e hk0⟩
      clear H9
      rintro _ _ _ s9 ⟨pl', tp', rfl, rfl, rfl, S2, hz2, hkz⟩ H9
      repeat' (walk_at "go")
      have W0 : Way subc u v k (cost : Int) (min pl' en) := by
        rw [hen]
        exact way_of subc u v subc_nonneg subc_three he0 he50 hRn hR1 hR2 hR3 S2 (by omega) (by omega) (by omega) (by omega) hkz (fun i' j' a b e1 e2 e3 e4 e5 => by have := hll i' j' a b e1 e2 e3 e4 e5; omega)
      obtain ⟨JJ, hJJ⟩ : ∃ JJ : Inv, JJ = (fun mm vs cvs led => ∃ (p : Int) (tp : Tok), vs = [some (.ref lw), some (.ref lt), some (.int (wf.length : Int) t1), some (.int (tf.length : Int) t2), some (.int k tk'), some (.ref D), some (.int (cost : Int) t4), some (.int ((i + 1 : Nat) : Int) ti), some (.int en te), some (.int near u1), some (.int p tp)] ∧ cvs = [some (.int (C : Int) t3)] ∧ led = rl ++ [(D, PlO refs)] ++ hid ∧ Way subc u v k (cost : Int) p ∧ p ≤ en ∧ mm = (en - p).toNat) := ⟨_, rfl⟩
      obtain ⟨XX, hXX⟩ : ∃ XX : Pre, XX = (fun vs cvs led => ∃ (p : Int) (tp : Tok), vs = [some (.ref lw), some (.ref lt), some (.int (wf.length : Int) t1), some (.int (tf.length : Int) t2), some (.int k tk'), some (.ref D), some (.int (cost : Int) t4), some (.int ((i + 1 : Nat) : Int) ti), some (.int en te), some (.int near u1), some (.int p tp)] ∧ cvs = [some (.int (C : Int) t3)] ∧ led = rl ++ [(D, PlO refs)] ++ hid ∧ Rch subc u v k (cost : Int) p) := ⟨_, rfl⟩
      refine whileX (by assumption) JJ XX (en - min pl' en).toNat (by rw [hJJ]; exact ⟨_, _, rfl, rfl, rfl, W0, by omega, rfl⟩) ?_ ?_
      · clear W0 S2 hz2 hkz S1 hz1 hll
        rintro mm _ _ _ s₂ hjj H₂
        rw [hJJ] at hjj
        obtain ⟨p, tp, rfl, rfl, rfl, hW, hpe, rfl⟩ := hjj
        repeat' (walk_at "go")
        · have hn0 : 0 ≤ p := by assumption
          have hne : p < en := by assumption
          rcases hW.1 with hneg | ⟨pn, j, rfl, hd, _⟩
          · exfalso; omega
          obtain ⟨hd1, hd2, hd3⟩ := hd
          obtain ⟨hp1', hj1'⟩ := enD_lt (hen ▸ hne) hd1
          obtain ⟨f, hf⟩ := get_some (l := wf) (i := pn) (by rw [← hul]; exact hp1')
          obtain ⟨f', hf'⟩ := get_some (l := tf) (i := j) (by rw [← hvl]; exact hj1')
          have hf6 := hw6 f (List.mem_of_getElem? hf)
          have hf6' := ht6 f' (List.mem_of_getElem? hf')
          have hup : u[pn]? = some (sgn f) := by rw [hu, List.getElem?_map, hf]; rfl
          have hvj : v[j]? = some (sgn f') := by rw [hv, List.getElem?_map, hf']; rfl
          have hinj := sgn_inj f hf6 f' hf6'
          rename FS _ _ _ _ _ _ _ _ _ _ => hOld
          refine idxN' (hOld.base hlw) hiw hxl1 (k := pn) (m := (f : Int)) (by rw [List.getElem?_map, hf]; rfl) rfl ?_
          intro u5
          repeat' (walk_at "go")
          rename FS _ _ _ _ _ _ _ _ _ _ => hOld
          rw [← hd1]
          refine idxN' (hOld.base hlt) hit hyl1 (k := j) (m := (f' : Int)) (by rw [List.getElem?_map, hf']; rfl) rfl ?_
          intro u6
          repeat' (walk_at "go")
          · have he : (f : Int) = (f' : Int) := by assumption
            refine turnNext (en - ((pn : Int) + 1)).toNat (by assumption) (by omega) ?_
            rw [hJJ]
            exact ⟨_, _, rfl, rfl, rfl, way_on subc u v subc_nonneg hW he50 hd1 hup hvj (hinj.mpr (by omega)), by omega, rfl⟩
          · have he : ¬ (f : Int) = (f' : Int) := by assumption
            refine told (by assumption) ?_
            rw [hXX]
            refine ⟨_, _, rfl, rfl, rfl, way_rch subc u v subc_nonneg hW he50 fun i' j' a b e1 e2 e3 e4 e5 => ?_⟩
            have e6 : i' = pn := by omega
            subst e6
            have e7 : j' = j := by omega
            subst e7
            rw [hup] at e3
            rw [hvj] at e4
            cases e3; cases e4
            have := hinj.mp e5
            omega
        · have hc : ¬ p < en := by assumption
          refine told (by assumption) ?_
          rw [hXX]
          refine ⟨_, _, rfl, rfl, rfl, way_rch subc u v subc_nonneg hW he50 fun i' j' a b e1 e2 e3 e4 e5 => ?_⟩
          exact enD_ge (hen ▸ hc) e1 e2 e3 e4
        · have hc : ¬ 0 ≤ p := by assumption
          refine told (by assumption) ?_
          rw [hXX]
          exact ⟨_, _, rfl, rfl, rfl, way_rch subc u v subc_nonneg hW he50 fun i' j' a b e1 e2 e3 e4 e5 => by omega⟩
      rename FS _ _ _ _ _ _ _ _ _ _ => hOld
      clear hOld
      rintro _ _ _ s9 hxx H9
      rw [hXX] at hxx
      obtain ⟨p, tp, rfl, rfl, rfl, hR⟩ := hxx
      repeat' (walk_at "go")
      rename FS _ _ _ _ _ _ _ _ _ _ => hOld
      refine idxN (hOld.lstP (mD _)) hrefs1 hr1 rfl ?_
      repeat' (walk_at "go")
      rename FS _ _ _ _ _ _ _ _ _ _ => hOld
      rw [c_s2 cost]
      have hx1e : x1.length = C + 2 := by rw [hi1.length]; exact (hdone (i + 1) b1).1
      refine setL' hOld (i := i + 1) (by rw [List.append_assoc, List.getElem?_append_left (by omega)]; exact hl1) hp1 (by omega) (by omega) ?_
      clear hOld; intro s10 H10
      rw [List.append_assoc, List.set_append_left _ _ (by omega), ← List.append_assoc] at H10
      repeat' (walk_at "go")
      rw [hQ2]
      refine forNext (rl.set (i + 1) _ ++ [(D, PlO refs)]) (by assumption) ⟨_, _, _, _, _, _, _, _, _, _, _, rfl, rfl, rfl, hrows.set b1 hr1 hi1, hdone.set b1 hcost ?_ (Nat.succ_pos _) b2⟩
      rw [c_k1 hku]
      exact hR
    · rintro _ _ _ s₈ ⟨R, rl, t1, t2, t3, t4, o1, o3, o4, o5, o6, rfl, rfl, rfl, hrows, hdone⟩ H₈
      rw [n_1 hN'] at hdone
      clear H7 hr7
      repeat' (walk_at "go")
      rw [hQ1]
      exact forNext (rl ++ [(D, PlO refs)]) (by assumption) ⟨R, rl, _, _, _, _, _, _, _, _, _, rfl, rfl, rfl, hrows, hdone.next⟩
  · clear H7 hr7
    rintro _ _ _ s₈ ⟨R, rl, t1, t2, t3, o1, o2, o3, o4, o5, o6, rfl, rfl, rfl, hrows, hdone⟩ H₈
    rw [List.append_nil] at H₈
    have hrefs : refs.length = N := hrows.1
    repeat' (walk_at "go")
    rename FS _ _ _ _ _ _ _ _ _ _ => hOld
    have hfl : ∀ k, k < N - 2 → ((R (k + 1)).drop 2).length = C := fun k hk => by
      rw [List.length_drop, (hdone (k + 1) (by omega)).1]; omega
    have hsl : ((refs.drop 1).take (N - 2)).length = N - 2 := n_7 hrefs (by rw [hN']; exact Nat.le_add_left _ _)
    refine evComp2L (GG.st _) hE hR.handled hOld (closureFor_none (by decide)) (by decide) rfl (by decide) (by kernel_rfl) (by kernel_rfl) (by decide) (by kernel_rfl) (fun x y c e => by cases e)
      ((refs.drop 1).take (N - 2)) (fun i => (R (i + 1)).drop 2) (by omega) (fun i hi => by rw [hfl i (by omega)]; omega) ?_ ?_ ?_
    · repeat' (walk_at "go")
      rename FS _ _ _ _ _ _ _ _ _ _ => hOld'
      refine slL hOld' (hOld'.lstP (a := D) (xs := refs) (by simp)) (.int _ _) (.int _ _) (size_1000 (by omega)) (ys := (refs.drop 1).take (N - 2)) (by have e := pick_1m1 refs.toArray (by simp; omega); rw [e]; simp [hrefs]) ?_
      intro b s9 H9
      exact ⟨b, rfl, H9⟩
    · intro C' s₁ l i vv o led' s₃ hiv HA HB
      have hilt : i < N - 2 := by rw [← hsl]; exact (List.getElem?_eq_some_iff.mp hiv).1
      obtain ⟨a, x, p, hra, hla, hpa, hia⟩ := hrows.2.2 (i + 1) (by omega)
      have ev : vv = .ref a := by
        rw [List.getElem?_take_of_lt (by omega), List.getElem?_drop, Nat.add_comm 1 i, hra] at hiv
        cases hiv; rfl
      subst ev
      have hlx := HA.lstQ (List.mem_cons_of_mem _ (List.mem_append_left _ (List.mem_of_getElem? hla))) hpa
      clear HA hOld
      have hE' := compE HB hE rfl (by kernel_rfl)
      have hxl2 : x.length = C + 2 := by rw [hia.length]; exact (hdone (i + 1) (by omega)).1
      repeat' (walk_at "go")
      rename FS _ _ _ _ _ _ _ _ _ _ => hOld
      refine slL hOld (hOld.base hlx) (.int _ _) .none (size_1000 (by omega)) (ys := x.drop 2) (slicePick_from' _ 2) ?_
      intro b s9 H9
      exact ⟨b, x.drop 2, rfl, H9, hia.drop 2⟩
    · intro D2 zs l s9 H9 hzs
      clear hOld
      obtain ⟨f1, f2⟩ := flat_get (fun i => (R (i + 1)).drop 2) C (N - 2) hfl
      rw [hsl] at hzs
      repeat' (walk_at "go")
      rename FS _ _ _ _ _ _ _ _ _ _ => hOld
      refine h D2 zs _ _ hOld.kept (hOld.has (D2, PlO zs) (by simp)).2.2 (hOld.lstP (by simp)) hzs ⟨by rw [f1, n_3 hN], fun a e ha he => ?_⟩
      rw [f2 a e (by omega) he, List.getElem?_drop]
      obtain ⟨q, hq1, hq2⟩ := (hdone (a + 1) (by omega)).2 (2 + e) (by omega) (by omega)
      refine ⟨q, hq1, ?_⟩
      rw [show ((a + 1 : Nat) : Int) - 1 - (u.length : Int) = (a : Int) - u.length by omega, show ((2 + e : Nat) : Int) - 2 = (e : Int) by omega] at hq2
      exact hq2
def lamPos : Pos := ⟨127, 56, 127, 121⟩
def lamQual : Str := Str.ofString "_law_stands" ++ ".<locals>." ++ "<lambda>"
theorem sub_three {x y z : Str} {a b c : Addr} {L : List (Str × Addr)} (h1 : L.lookup x = some a) (h2 : L.lookup y = some b) (h3 : L.lookup z = some c) : ∀ u d, List.lookup u [(x, a), (y, b), (z, c)] = some d → L.lookup u = some d := by
  intro u d h
  rw [List.lookup_cons] at h
  split at h
  · rename_i e; have := eq_of_beq e; subst this; cases h; exact h1
  · rw [List.lookup_cons] at h
    split at h
    · rename_i e; have := eq_of_beq e; subst this; cases h; exact h2
    · obtain ⟨e1, e2⟩ := lookup_one h
      subst e1 e2; exact h3
theorem diag_up {a b : List Nat} {k e : Int} {lo hi i j : Nat} (z1 : -k ≤ (lo : Int)) (z2 : (hi : Int) ≤ a.length + 1) (z3 : (hi : Int) + k ≤ b.length + 1) (h1 : lo ≤ i) (h2 : i ≤ j) (h3 : j < hi) (hq : e < dd subc a b i ((i : Int) + k).toNat) : e < dd subc a b j ((j : Int) + k).toNat := by
  obtain ⟨p, hp⟩ := Int.eq_ofNat_of_zero_le (show 0 ≤ (i : Int) + k by omega)
  rw [show (j : Int) + k = ((p + (j - i) : Nat) : Int) by omega, Int.toNat_natCast]
  rw [hp, Int.toNat_natCast] at hq
  have hm := dd_monos subc a b subc_nonneg (i := i) (j := p) (j - i) (by omega) (by omega)
  rw [show i + (j - i) = j by omega] at hm
  exact Int.lt_of_lt_of_le hq hm
theorem stands_call {A : Around} {s : Shared} {a b : List Nat} {k : Int} {e : Nat} {t1 t2 t3 t4 : Tok} {Q : Value → Shared → Prop} (hA : Room A 5) (g : GG w s.heap) (gh : GG w (hideS 79 s).heap) (ha : ∀ x ∈ a, Sg x) (hb : ∀ x ∈ b, Sg x) (la : a.length ≤ 40) (lb : b.length ≤ 40)
    (hk1 : -(a.length : Int) ≤ k) (hk2 : k ≤ (b.length : Int))
    (hT : ∃ ps, s.heap.get? 79 = some (tabObj ps) ∧ (ps = #[] ∨ ∃ c', ps = ps1 lamPos c' ∧ ∃ o, s.heap.get? c' = some o ∧ CodeO lamQual o))
    (h : ∀ (r : Nat) t c' s', Keeps (hideS 79 s) s' → s'.heap.get? 79 = some (tabObj (ps1 lamPos c')) → (∃ o, s'.heap.get? c' = some o ∧ CodeO lamQual o) → (s.heap.get? c' = none ∨ s.heap.get? 79 = some (tabObj (ps1 lamPos c'))) →
      max 0 (-k) ≤ (r : Int) → (r : Int) ≤ enD a b k + 1 → (∀ i j : Nat, max 0 (-k) ≤ (i : Int) → i < r → InD a b k i j → dd subc a b i j ≤ (e : Int)) → (∀ i j : Nat, r ≤ i → (i : Int) < enD a b k + 1 → InD a b k i j → (e : Int) < dd subc a b i j) → Q (.int (r : Int) t) s') :
    wpAny (model prog w) A (call (.ref 82) [.str (S a) t1, .str (S b) t2, .int k t3, .int (e : Int) t4]) Q (fun _ _ => False) s := by
  refine callC (G := GG w) (binds := [(Str.ofString "word", .str (S a) t1), (Str.ofString "text", .str (S b) t2), (Str.ofString "k", .int k t3), (Str.ofString "cost", .int (e : Int) t4)]) [Str.ofString "row", Str.ofString "end"] [none, none] [Str.ofString "word", Str.ofString "text", Str.ofString "k", Str.ofString "cost"] [some (.str (S a) t1), some (.str (S b) t2), some (.int k t3), some (.int (e : Int) t4)] _ hA (g.1 82 _ rfl) rfl g g.2.1 ⟨81, _, _, _, rfl, g.1 81 _ rfl, rfl, rfl⟩ rfl rfl (fun Q' E' q => wpAny_pure q) ?_ (fun x v a => (at_none (ns := [Str.ofString "row", Str.ofString "end"]) a).elim) ?_ (by decide) (by decide) (by kernel_rfl) ?_
  · intro x hx
    simp only [List.mem_cons, List.not_mem_nil, or_false] at hx
    rcases hx with rfl | rfl | rfl | rfl <;> exact .inr ⟨by kernel_rfl, by kernel_rfl⟩
  · intro x o a
    cases a with
    | head => exact ⟨Option.isSome_iff_exists.mp (by kernel_rfl), by kernel_rfl⟩
    | tail a => cases a with
      | head => exact ⟨Option.isSome_iff_exists.mp (by kernel_rfl), by kernel_rfl⟩
      | tail a => cases a with
        | head => exact ⟨Option.isSome_iff_exists.mp (by kernel_rfl), by kernel_rfl⟩
        | tail a => cases a with
          | head => exact ⟨Option.isSome_iff_exists.mp (by kernel_rfl), by kernel_rfl⟩
          | tail a => cases a
  intro env s₁ hE hcode hqual hR H
  dsimp only at hE hcode hqual
  obtain ⟨ps, hps, hcase⟩ := hT
  have HG := H.ghost gh (P := 79) (PP := fun o => o = tabObj ps) ⟨_, hps, rfl⟩
  clear H
  obtain ⟨cw, hcw, hcwv⟩ := HG.cell (x := Str.ofString "word") (v := .str (S a) t1) .head
  repeat' (walk_at "go")
  rename FS _ _ _ _ _ _ _ _ _ _ => hOld
  refine exComp1R (GG.st _) hE hR.handled hOld (by kernel_rfl) _ (fun D => by walk_at "put") rfl (by decide) (closureFor_is (cl := [(Str.ofString "word", cw)]) (by simp [clOf, hcw])) (by decide) rfl (by decide) (by kernel_rfl) (by kernel_rfl) inj_one
    0 (a.length + 1) (fun i ys led => led = [] ∧ ys.length = i ∧ ∀ j, j < i → ∃ t, ys[j]? = some (.str (S (a.take j)) t)) (by omega) ?_ ⟨rfl, rfl, fun j hj => by omega⟩ ?_ ?_
  · clear hcwv
    repeat' (walk_at "go")
    rename_i H9 hr9
    rw [show ((a.length : Int) + 1) = ((a.length + 1 : Nat) : Int) by omega] at hr9
    exact ⟨H9, _, _, _, _, _, rfl, hr9, (small_n (by omega)).1, (small_n (by omega)).2⟩
  · rintro C' s₁ i tk ys led' hid s₃ hi ⟨rfl, hyl, hyj⟩ HA HB
    obtain ⟨cw', hcw', hcwv'⟩ := HA.cell (x := Str.ofString "word") (v := .str (S a) t1) .head
    rw [hcw] at hcw'
    cases hcw'
    clear HA hOld hcwv
    have hE' := compE HB hE rfl (by kernel_rfl)
    simp only [Int.zero_add] at HB
    repeat' (walk_at "go")
    rename FS _ _ _ _ _ _ _ _ _ _ => hOld
    refine nmC0 hOld hE' (c := cw) (by simp [compEnvC]) hcwv' (by kernel_rfl) ?_
    repeat' (walk_at "go")
    rename FS _ _ _ _ _ _ _ _ _ _ => hOld
    refine ⟨[], ⟨rfl, by simp [hyl], fun j hj => ?_⟩, by rw [show (0 + (i : Int)) = (i : Int) by omega]; exact hOld⟩
    by_cases hji : j < i
    · obtain ⟨t, et⟩ := hyj j hji
      exact ⟨t, by rw [List.getElem?_append_left (by omega)]; exact et⟩
    · have : j = i := by omega
      subst this
      exact ⟨_, by rw [List.getElem?_append_right (by omega), hyl, Nat.sub_self]; rfl⟩
  rintro D ys led' s4 ⟨rfl, hyl, hyj⟩ H₄
  clear hOld hcwv
  repeat' (walk_at "go")
  rename FS _ _ _ _ _ _ _ _ _ _ => hOld
  obtain ⟨lo, hlo⟩ : ∃ lo : Nat, (lo : Int) = max 0 (-k) := ⟨(max 0 (-k)).toNat, by omega⟩
  obtain ⟨hi, hhi⟩ : ∃ hi : Nat, (hi : Int) = enD a b k + 1 := ⟨(enD a b k + 1).toNat, by unfold enD; omega⟩
  rw [show min (a.length : Int) ((b.length : Int) - k) + 1 = (hi : Int) by rw [hhi]; rfl] at hOld
  have hOld2 := hOld.perm (led' := (79, fun o => o = tabObj ps) :: [(D, PlO ys)]) (List.Perm.swap _ _ _)
  clear hOld
  refine wpAny_Call_Name_kw ?_
  repeat' (walk_at "go")
  refine cwK (f_bisR w) rfl ?_
  repeat' (walk_at "go")
  rw [← hlo]
  refine kws_cons ?_
  rename FS _ _ _ _ _ _ _ _ _ _ => hOld
  obtain ⟨mg, bm, ob, x1, x2, x3, x4, x5, x6, x7, x8⟩ := gh.2.2.2.2
  obtain ⟨ct, hct, hctv⟩ := hOld.cell (x := Str.ofString "text") (v := .str (S b) t2) (.tail .head)
  obtain ⟨ck, hck, hckv⟩ := hOld.cell (x := Str.ofString "k") (v := .int k t3) (.tail (.tail .head))
  obtain ⟨cc, hcc, hccv⟩ := hOld.cell (x := Str.ofString "cost") (v := .int (e : Int) t4) (.tail (.tail (.tail .head)))
  have hclos : ∀ sc : Scope, sc.names = [(Str.ofString "one", NameKind.local), (Str.ofString "cost", NameKind.free), (Str.ofString "k", NameKind.free), (Str.ofString "text", NameKind.free), (Str.ofString "_levenshtein_distance", NameKind.globalImplicit), (Str.ofString "len", NameKind.globalImplicit)] → closureFor sc env = pure [(Str.ofString "text", ct), (Str.ofString "k", ck), (Str.ofString "cost", cc)] := fun sc hsc =>
    closureFor_is (by rw [hsc]; simp [clOf, hct, hck, hcc])
  have hinj : ∀ x y c, List.lookup x [(Str.ofString "text", ct), (Str.ofString "k", ck), (Str.ofString "cost", cc)] = some c → List.lookup y [(Str.ofString "text", ct), (Str.ofString "k", ck), (Str.ofString "cost", cc)] = some c → x = y := fun x y c q1 q2 => hOld.inj x y c (sub_three hct hck hcc _ _ q1) (sub_three hct hck hcc _ _ q2)
  have hq : env.qual ++ "<lambda>" = lamQual := by rw [hqual]; rfl
  refine mkLamBoth hOld hE hcode x1 x2 x3 x4 x5 x6 x7 x8 hps hcase hq rfl (hclos _ rfl) ?_
  intro f c' s9 H9 hf79 hcd9 hor hof
  have hD9 : s9.heap.IsList D ys.toArray := H9.lstP (by simp)
  clear hOld hctv hckv hccv
  obtain ⟨ct', hct', hctv⟩ := H9.cell (x := Str.ofString "text") (v := .str (S b) t2) (.tail .head)
  rw [hct] at hct'; cases hct'
  obtain ⟨ck', hck', hckv⟩ := H9.cell (x := Str.ofString "k") (v := .int k t3) (.tail (.tail .head))
  rw [hck] at hck'; cases hck'
  obtain ⟨cc', hcc', hccv⟩ := H9.cell (x := Str.ofString "cost") (v := .int (e : Int) t4) (.tail (.tail (.tail .head)))
  rw [hcc] at hcc'; cases hcc'
  refine kws_nil ?_
  refine ⟨H9.gg (GG.st _), ?_⟩
  obtain ⟨of, hof, hlam⟩ := hof
  obtain ⟨fd, hfd⟩ : ∃ fd, of.data = .func fd := by obtain ⟨pm, ctv, rfl⟩ := hlam; exact ⟨_, rfl⟩
  unfold enD at hhi
  have z1 : -k ≤ (lo : Int) := by omega
  have z2 : (hi : Int) ≤ a.length + 1 := by omega
  have z3 : (hi : Int) + k ≤ b.length + 1 := by omega
  refine bisK_call (K := fun i => (e : Int) < dd subc a b i ((i : Int) + k).toNat) hR (H9.gg (GG.st _)) hD9 (by omega) (by omega) (by omega) hof hfd ?_ ?_ ?_
  · clear hlo hhi
    intro B i v s' Q' hB hlo' hhi' hv hks hgg hQ'
    obtain ⟨tv, etv⟩ := hyj i (by omega)
    rw [hv] at etv; cases etv
    obtain ⟨j, hj⟩ : ∃ j : Nat, (j : Int) = (i : Int) + k := (Int.eq_ofNat_of_zero_le (show 0 ≤ (i : Int) + k by omega)).imp fun _ q => q.symm
    refine callLam hB (Keeps.up hks _ _ hof) hlam hgg hgg.2.1 ((CodeO.rec hcd9).keeps (Keeps.up hks)) (fun pm ctv => rfl) (by kernel_rfl) (by decide) rfl (by kernel_rfl) hinj rfl rfl ?_
    intro env' s₂ hE' hcl hR' H'
    dsimp only at hE'
    clear H9
    repeat' (walk_at "go")
    rename FS _ _ _ _ _ _ _ _ _ _ => hOld
    refine nmF hOld hE' (c := ct) (by rw [hcl]; kernel_rfl) (hctv.keeps (Keeps.up hks)) (by kernel_rfl) ?_
    repeat' (walk_at "go")
    rename FS _ _ _ _ _ _ _ _ _ _ => hOld
    refine nmF hOld hE' (c := ck) (by rw [hcl]; kernel_rfl) (hckv.keeps (Keeps.up hks)) (by kernel_rfl) ?_
    repeat' (walk_at "gs1")
    rename FS _ _ _ _ _ _ _ _ _ _ => hOld
    rw [show ((List.take i a).length : Int) + k = (j : Int) by rw [List.length_take, Nat.min_eq_left (by omega)]; exact hj.symm]
    refine slToN (l := b) (i := j) hOld (by omega) (by omega) ?_
    clear hOld; intro tb sb Hb
    repeat' (walk_at "go")
    rename FS _ _ _ _ _ _ _ _ _ _ => hOld
    refine nmF hOld hE' (c := cc) (by rw [hcl]; kernel_rfl) (hccv.keeps (Keeps.up hks)) (by kernel_rfl) ?_
    repeat' (walk_at "go")
    rename FS _ _ _ _ _ _ _ _ _ _ => hOld
    refine lev_call hR' (hOld.gg (GG.st _)) (fun x hx => ha x (List.mem_of_mem_take hx)) (fun x hx => hb x (List.mem_of_mem_take hx)) (by rw [List.length_take]; omega) (by rw [List.length_take]; omega) ?_
    intro r u9 s9 hr k9
    refine hQ' r u9 s9 ?_ (Keeps.trans' hOld.kept k9)
    show (e : Int) < r ↔ (e : Int) < dd subc a b i ((i : Int) + k).toNat
    rw [show ((i : Int) + k).toNat = j by rw [← hj]; exact Int.toNat_natCast j]
    unfold LevOk at hr
    unfold dd
    rcases hr with hr | hr <;> constructor <;> intro hz <;> omega
  · intro i j h1 h2 h3 hq'
    exact diag_up z1 z2 z3 h1 h2 h3 hq'
  · intro r tr s'' q1 q2 q3 q4 k9
    have H10 := H9.keeps k9
    clear H9
    repeat' (walk_at "go")
    rename FS _ _ _ _ _ _ _ _ _ _ => hOld
    refine h r _ c' _ hOld.kept (Keeps.up k9 _ _ hf79) (by obtain ⟨o, ho, hoc⟩ := hcd9; exact ⟨o, Keeps.up k9 _ _ ho, hoc⟩) hor (by omega) (by unfold enD; omega) (fun i j w1 w2 w3 => ?_) (fun i j w1 w2 w3 => ?_)
    · have := q3 i (by omega) w2
      rw [show ((i : Int) + k).toNat = j by rw [← w3.1]; exact Int.toNat_natCast j] at this
      omega
    · have := q4 i w1 (by unfold enD at w2; omega)
      rw [show ((i : Int) + k).toNat = j by rw [← w3.1]; exact Int.toNat_natCast j] at this
      exact this
noncomputable def lawBody : List Stmt := match (PySem.Challenge.pw_pu0024_01).main.body.getLast? with
  | some (.FunctionDef _ _ body _ _ _ _ _ _ _) => body
  | _ => []
noncomputable def lawNames : List (Str × NameKind) := match (PySem.Challenge.pw_pu0024_01).main.body.getLast? with
  | some (.FunctionDef _ _ _ _ _ _ scope _ _ _) => scope.names
  | _ => []
/-- the table of codes, in the ledger -/
def TabL (T : Led) : Prop := T = [(79, fun o => o = tabObj #[])] ∨ ∃ c', T = [(c', CodeO lamQual), (79, fun o => o = tabObj (ps1 lamPos c'))]
section
variable {G : Heap → Prop} {own : Bool} {s₀ : Shared} {env : Env} {ns cns : List Str} {vs cvs : List (Option Value)} {T L : Led} {s s' : Shared}
theorem FS.tabAt (H : FS G own s₀ env ns vs cns cvs (T ++ L) s) (hT : TabL T) : ∃ ps, s.heap.get? 79 = some (tabObj ps) ∧ (ps = #[] ∨ ∃ c', ps = ps1 lamPos c' ∧ ∃ o, s.heap.get? c' = some o ∧ CodeO lamQual o) := by
  rcases hT with rfl | ⟨c', rfl⟩
  · obtain ⟨⟨o, ho, eo⟩, _⟩ := H.has (79, fun o => o = tabObj #[]) (by simp)
    rw [eo] at ho
    exact ⟨_, ho, .inl rfl⟩
  · obtain ⟨⟨o, ho, eo⟩, _⟩ := H.has (79, fun o => o = tabObj (ps1 lamPos c')) (by simp)
    rw [eo] at ho
    exact ⟨_, ho, .inr ⟨c', rfl, (H.has (c', CodeO lamQual) (by simp)).1⟩⟩
theorem FS.tab0 (H : FS G own s₀ env ns vs cns cvs (T ++ L) s) (hT : TabL T) : s₀.heap.get? 79 = none := by
  rcases hT with rfl | ⟨c', rfl⟩
  · exact (H.has (79, fun o => o = tabObj #[]) (by simp)).2.2
  · exact (H.has (79, fun o => o = tabObj (ps1 lamPos c')) (by simp)).2.2
theorem FS.gh (SG : Stable G) (H : FS G own s₀ env ns vs cns cvs (T ++ L) s) (hT : TabL T) : G (hideS 79 s).heap :=
  SG.up _ _ H.g fun b o e => hide_ne (H.keep b o e) (by rintro rfl; rw [H.tab0 hT] at e; cases e)
theorem FS.tabStep {c' : Addr} (H : FS G own s₀ env ns vs cns cvs (T ++ L) s) (hT : TabL T) (k : Keeps (hideS 79 s) s') (h79 : s'.heap.get? 79 = some (tabObj (ps1 lamPos c'))) (hcd : ∃ o, s'.heap.get? c' = some o ∧ CodeO lamQual o)
    (hor : s.heap.get? c' = none ∨ s.heap.get? 79 = some (tabObj (ps1 lamPos c'))) : ∃ T', TabL T' ∧ FS G own s₀ env ns vs cns cvs (T' ++ L) s' := by
  rcases hT with rfl | ⟨c0, rfl⟩
  · have H1 := FS.stepP (l1 := []) (PP' := fun o => o = tabObj (ps1 lamPos c')) H k ⟨_, h79, rfl⟩
    rcases hor with hf | hq
    · exact ⟨_, .inr ⟨c', rfl⟩, H.addF H1 (fun p hp => by
        rcases List.mem_cons.mp hp with rfl | hp
        · exact ⟨_, List.mem_cons_self, rfl⟩
        · exact ⟨p, List.mem_cons_of_mem _ hp, rfl⟩) hf hcd⟩
    · exfalso
      obtain ⟨⟨o, ho, eo⟩, _⟩ := H.has (79, fun o => o = tabObj #[]) (by simp)
      rw [eo, hq] at ho
      simp [ps1] at ho
  · have H1 := FS.stepP (l1 := [(c0, CodeO lamQual)]) (PP' := fun o => o = tabObj (ps1 lamPos c')) H k ⟨_, h79, rfl⟩
    rcases hor with hf | hq
    · have H2 : FS G own s₀ env ns vs cns cvs ((79, fun o => o = tabObj (ps1 lamPos c')) :: L) s' := H1.sub (List.sublist_cons_self _ _)
      exact ⟨_, .inr ⟨c', rfl⟩, H.addF H2 (fun p hp => by
        rcases List.mem_cons.mp hp with rfl | hp
        · exact ⟨(79, fun o => o = tabObj (ps1 lamPos c0)), by simp, rfl⟩
        · exact ⟨p, List.mem_append_right _ hp, rfl⟩) hf hcd⟩
    · obtain ⟨⟨o, ho, eo⟩, _⟩ := H.has (79, fun o => o = tabObj (ps1 lamPos c0)) (by simp)
      rw [eo, hq] at ho
      have e : c' = c0 := by simpa [ps1, rawInt] using ho
      subst e
      exact ⟨_, .inr ⟨c', rfl⟩, H1⟩
end
theorem law_walk {A : Around} {s₀ s : Shared} {env : Env} {l : Addr} {xs : List Value} {script : List Int} {Q : Flow → Shared → Prop} (hR : Room A 6) (hE : EnvIs env lawNames)
    (H : FS (GG w) true s₀ env [Str.ofString "script", Str.ofString "figures", Str.ofString "m", Str.ofString "n", Str.ofString "word", Str.ofString "text", Str.ofString "reaches", Str.ofString "costs", Str.ofString "k", Str.ofString "low", Str.ofString "i", Str.ofString "due", Str.ofString "cost"] [some (.ref l), none, none, none, none, none, none, none, none, none, none, none, none] [] [] [(79, fun o => o = tabObj #[])] s) (hl : s₀.heap.IsList l xs.toArray) (hi : IntsAre xs script) (hn : script.length ≤ 63)
    (h : ∀ s', Keeps s₀ s' → (∃ ps, s'.heap.get? 79 = some (tabObj ps)) → Q (.ret (.bool true)) s') : wpAny (model prog w) A (execs lawBody env) Q (fun _ _ => False) s := by
  have hlen : xs.length = script.length := hi.length
  show wpAny _ _ (execs (_ :: _) env) _ _ _
  repeat' (walk_at "go")
  rename FS _ _ _ _ _ _ _ _ _ _ => hOld
  refine fig_call (hR.less (by decide)) (hOld.gg (GG.st _)) (hOld.base hl) hi hn ?_
  intro Df ys fs s1 k1 hf1 hl1 hys hfl hf6
  have H1 := hOld.new (P := LstO ys) k1 hf1 (by obtain ⟨o, h1, h2, h3⟩ := hl1; exact ⟨o, h1, h2, h3⟩)
  clear hOld k1 hf1 hl1
  have hyl : ys.length = 8 := by rw [hys.length, List.length_map, hfl]
  repeat' (walk_at "go")
  rename FS _ _ _ _ _ _ _ _ _ _ => hOld
  obtain ⟨m, hm3, hm4, em⟩ := law_m xs.length
  obtain ⟨n, hn3, hn5, en⟩ := law_n xs.length
  rw [em, en] at hOld
  rw [em]
  obtain ⟨wf, hwf⟩ : ∃ wf, wf = fs.take m := ⟨_, rfl⟩
  obtain ⟨tf, htf⟩ : ∃ tf, tf = (fs.drop m).take n := ⟨_, rfl⟩
  have hysw : IntsAre (ys.take m) (wf.map fun (f : Nat) => (f : Int)) := by rw [hwf, List.map_take]; exact hys.take m
  have hyst : IntsAre ((ys.drop m).take n) (tf.map fun (f : Nat) => (f : Int)) := by rw [htf, List.map_take, List.map_drop]; exact (hys.drop m).take n
  have hwl : wf.length = m := by rw [hwf, List.length_take]; omega
  have htl : tf.length = n := by rw [htf, List.length_take, List.length_drop]; omega
  have hw6 : ∀ f ∈ wf, f < 6 := fun f hf => hf6 f (List.mem_of_mem_take (hwf ▸ hf))
  have ht6 : ∀ f ∈ tf, f < 6 := fun f hf => hf6 f (List.mem_of_mem_drop (List.mem_of_mem_take (htf ▸ hf)))
  have hbet : ∀ k : Nat, slicePick ys.toArray (some (m : Int)) (some ((m + n : Nat) : Int)) none = ((ys.drop m).take n).toArray := fun _ => by
    have := slicePick_run ys.toArray m (m + n) (by simp; omega) (by omega)
    simpa using this
  clear em en
  have hy1000 : ys.length ≤ 1000 := by omega
  have hw900 : wf.length ≤ 900 := by omega
  have ht900 : tf.length ≤ 900 := by omega
  refine slL hOld (hOld.lstQ List.mem_cons_self (fun o ho => ho)) .none (.int _ _) (size_1000 hy1000) (ys := ys.take m) (slicePick_upto' _ _) ?_
  clear hOld; intro b1 s2 H2
  repeat' (walk_at "go")
  rename FS _ _ _ _ _ _ _ _ _ _ => hOld
  refine text_call (hR.less (by decide)) (hOld.gg (GG.st _)) (hOld.lstP List.mem_cons_self) hysw hw6 hw900 ?_
  intro t9 s9 k9
  have H9 := hOld.keeps k9
  clear hOld k9
  repeat' (walk_at "go")
  rename FS _ _ _ _ _ _ _ _ _ _ => hOld
  rw [c_add m n]
  refine slL hOld (hOld.lstQ (List.mem_cons_of_mem _ List.mem_cons_self) (fun o ho => ho)) (.int _ _) (.int _ _) (size_1000 hy1000) (ys := (ys.drop m).take n) (hbet 0) ?_
  clear hOld; intro b2 s3 H3
  repeat' (walk_at "go")
  rename FS _ _ _ _ _ _ _ _ _ _ => hOld
  refine text_call (hR.less (by decide)) (hOld.gg (GG.st _)) (hOld.lstP List.mem_cons_self) hyst ht6 ht900 ?_
  intro t10 s10 k10
  have H9 := hOld.keeps k10
  clear hOld k10
  repeat' (walk_at "go")
  rename FS _ _ _ _ _ _ _ _ _ _ => hOld
  refine slL hOld (hOld.lstQ (List.mem_cons_of_mem _ (List.mem_cons_of_mem _ List.mem_cons_self)) (fun o ho => ho)) .none (.int _ _) (size_1000 hy1000) (ys := ys.take m) (slicePick_upto' _ _) ?_
  clear hOld; intro b3 s4 H4
  repeat' (walk_at "go")
  rename FS _ _ _ _ _ _ _ _ _ _ => hOld
  rw [c_add m n]
  refine slL hOld (hOld.lstQ (List.mem_cons_of_mem _ (List.mem_cons_of_mem _ (List.mem_cons_of_mem _ List.mem_cons_self))) (fun o ho => ho)) (.int _ _) (.int _ _) (size_1000 hy1000) (ys := (ys.drop m).take n) (hbet 0) ?_
  clear hOld; intro b4 s5 H5
  repeat' (walk_at "go")
  rename FS _ _ _ _ _ _ _ _ _ _ => hOld
  refine reaches_call (hR.less (by decide)) (hOld.gg (GG.st _)) (hOld.lstP (List.mem_cons_of_mem _ List.mem_cons_self)) hysw (hOld.lstP List.mem_cons_self) hyst (by omega) (by omega) hw6 ht6 ?_
  intro Dr zs ms s6 k6 hf6' hl6 hzs hre
  have H6 := hOld.new (P := LstO zs) k6 hf6' (by obtain ⟨o, h1, h2, h3⟩ := hl6; exact ⟨o, h1, h2, h3⟩)
  clear hOld k6 hf6' hl6
  obtain ⟨u, hu⟩ : ∃ u, u = wf.map sgn := ⟨_, rfl⟩
  obtain ⟨v, hv⟩ : ∃ v, v = tf.map sgn := ⟨_, rfl⟩
  have hul : u.length = m := by rw [hu, List.length_map, hwl]
  have hvl : v.length = n := by rw [hv, List.length_map, htl]
  have hus : ∀ x ∈ u, Sg x := fun x hx => by rw [hu] at hx; obtain ⟨f, hf, rfl⟩ := List.mem_map.mp hx; exact sgn_sg f (hw6 f hf)
  have hvs : ∀ x ∈ v, Sg x := fun x hx => by rw [hv] at hx; obtain ⟨f, hf, rfl⟩ := List.mem_map.mp hx; exact sgn_sg f (ht6 f hf)
  rw [← hu] at H6
  rw [← hv] at H6
  rw [← hu, ← hv, hwl, htl] at hre
  repeat' (walk_at "go")
  rename_i H7 hr7
  obtain ⟨C, hC⟩ : ∃ C, C = 2 * max m n := ⟨_, rfl⟩
  rw [← hC] at hre
  rw [show (2 * max (m : Int) (n : Int)) = (C : Int) by omega] at H7
  have hC2 : Unit → 2 * max u.length v.length ≤ C := fun _ => by rw [hC, hul, hvl]; exact Nat.le_refl _
  have hC8 : C ≤ 8 := by omega
  have hC1 : 1 ≤ C := by omega
  clear hC
  have hsm := small_ab (a := -(m : Int)) (b := (n : Int) + 1) (by omega) (by omega)
  rw [show ((n : Int) + 1 - -(m : Int)).toNat = m + n + 1 by omega] at hsm
  have H8 := H7.perm (List.perm_append_comm (l₁ := [_, _, _, _, _, _]) (l₂ := [_]))
  clear H7
  obtain ⟨led, ⟨L, rfl, mDf, mDr⟩, H9⟩ := H8.ex (fun led => ∃ L, led = [(79, fun o => o = tabObj #[])] ++ L ∧ (Df, LstO ys) ∈ L ∧ (Dr, LstO zs) ∈ L) ⟨[_, _, _, _, _, _], rfl, by simp, by simp⟩
  clear H8
  have hmsl : ms.length ≤ 72 := by
    rw [hre.1]
    have : (u.length + v.length + 1) * C ≤ 9 * 8 := Nat.mul_le_mul (by omega) (by omega)
    omega
  have hget : ∀ a e, a < m + n + 1 → e < C → a * C + e < ms.length ∧ ∃ q, ms[a * C + e]? = some q ∧ Rch subc u v ((a : Int) - m) (e : Int) q := fun a e ha he => by
    obtain ⟨q, h1, h2⟩ := hre.2 a e (by omega) he
    rw [hul] at h2
    exact ⟨(List.getElem?_eq_some_iff.mp h1).1, q, h1, h2⟩
  have hxs1 : xs.length ≤ 1000 := by omega
  have hu40 : u.length ≤ 40 := by rw [hul]; exact Nat.le_trans hm4 (by decide)
  have hv40 : v.length ≤ 40 := by rw [hvl]; exact Nat.le_trans hn5 (by decide)
  clear hlen hn hyl hwl htl hy1000 hw900 ht900
  refine forX (led := [(79, fun o => o = tabObj #[])] ++ L) [] hE hR H9.nil hr7 (m + n + 1) hsm.1 hsm.2
    (fun a vs cvs led => ∃ (T : Led) (t1 t2 t3 t4 t5 : Tok) (o1 o2 o3 o4 o5 : Option Value), vs = [some (.ref l), some (.ref Df), some (.int (m : Int) t1), some (.int (n : Int) t2), some (.str (S u) t3), some (.str (S v) t4), some (.ref Dr), some (.int (C : Int) t5), o1, o2, o3, o4, o5] ∧ cvs = [] ∧ led = T ++ L ∧ TabL T)
    ⟨_, _, _, _, _, _, _, _, _, _, _, rfl, rfl, rfl, .inl rfl⟩ (by kernel_rfl) ?_ ?_
  · clear H9 hr7
    rintro a ta _ _ _ ha ⟨T, t1, t2, t3, t4, t5, o1, o2, o3, o4, o5, rfl, rfl, rfl, hT⟩
    refine ⟨_, by walk_at "put", fun hid s₈ H₈ => genQ fun Q1 hQ1 => ?_⟩
    obtain ⟨k, hk⟩ : ∃ k : Int, k = (a : Int) - m := ⟨_, rfl⟩
    rw [c_km' hk] at H₈
    repeat' (walk_at "go")
    rename_i H7 hr7
    rw [show (k + (m : Int)) * (C : Int) = ((a * C : Nat) : Int) by rw [c_km hk]; simp] at H7
    obtain ⟨lo, hlo, l1⟩ := diag_lo k
    obtain ⟨hi, hhi, l2, l3⟩ := diag_hi hk ha
    rw [← hlo, ← hhi] at hr7
    have l4 := diag_lo4 hlo hk hm4
    clear hlo hhi
    have hsm2 := small_ab (a := (lo : Int)) (b := (hi : Int)) (by omega) (by omega)
    rw [show ((hi : Int) - (lo : Int)).toNat = hi - lo by omega] at hsm2
    refine forX (led := T ++ L) hid hE hR H7 hr7 (hi - lo) hsm2.1 hsm2.2
      (fun x vs cvs led => ∃ (tk tl : Tok) (o3 o4 o5 : Option Value), vs = [some (.ref l), some (.ref Df), some (.int (m : Int) t1), some (.int (n : Int) t2), some (.str (S u) t3), some (.str (S v) t4), some (.ref Dr), some (.int (C : Int) t5), some (.int k tk), some (.int ((a * C : Nat) : Int) tl), o3, o4, o5] ∧ cvs = [] ∧ led = T ++ L)
      ⟨_, _, _, _, _, rfl, rfl, rfl⟩ (by kernel_rfl) ?_ ?_
    · clear H7 hr7
      rintro x tx _ _ _ hx ⟨tk, tl, o3, o4, o5, rfl, rfl, rfl⟩
      refine ⟨_, by walk_at "put", fun hid s₈ H₈ => genQ fun Q2 hQ2 => ?_⟩
      obtain ⟨i, hii⟩ : ∃ i, i = lo + x := ⟨_, rfl⟩
      rw [show ((lo : Int) + (x : Int) * 1) = (i : Int) by omega] at H₈
      obtain ⟨j, hj⟩ : ∃ j : Nat, (j : Int) = (i : Int) + k := ⟨((i : Int) + k).toNat, by omega⟩
      have hd : InD u v k i j := ⟨hj, by omega, by omega⟩
      repeat' (walk_at "go")
      rename FS _ _ _ _ _ _ _ _ _ _ => hOld
      have hmDr : ∀ hid : Led, (Dr, LstO zs) ∈ T ++ L ++ hid := fun hid => List.mem_append_left _ (List.mem_append_right _ mDr)
      rw [show ((a * C : Nat) : Int) + (C : Int) = ((a * C + C : Nat) : Int) by omega]
      have hblk : a * C + C ≤ ms.length := by
        rw [hre.1, ← Nat.succ_mul]
        exact Nat.mul_le_mul_right _ (by omega)
      refine bisL_call (hR.less (by decide)) (hOld.gg (GG.st _)) (hOld.lstQ (hmDr _) (fun o ho => ho)) hzs (by omega) hblk (by omega) ?_ ?_
      · intro p q mp mq h1 h2 h3 hp hq hlt
        obtain ⟨_, qp, g1, R1⟩ := hget a (p - a * C) ha (by omega)
        obtain ⟨_, qq, g2, R2⟩ := hget a (q - a * C) ha (by omega)
        rw [show a * C + (p - a * C) = p by omega, hp] at g1
        rw [show a * C + (q - a * C) = q by omega, hq] at g2
        cases g1; cases g2
        rw [← hk] at R1 R2
        refine Int.not_le.mp fun hle => ?_
        have d1 := (R1.2 i j hd).mpr hle
        have d2 := (R2.2 i j hd).mp (by omega)
        omega
      intro r tr s9 hok k9
      have H9 := hOld.keeps k9
      clear hOld k9
      have hdue : ((r : Int) - ((a * C : Nat) : Int)) = dd subc u v i j := by
        have hR' : ∀ e : Nat, e < C → Rch subc u v k (e : Int) (ms.getD (a * C + e) 0) ∧ ms[a * C + e]? = some (ms.getD (a * C + e) 0) := fun e he => by
          obtain ⟨_, q, g1, R1⟩ := hget a e ha he
          rw [← hk] at R1
          rw [List.getD_eq_getElem?_getD, g1]
          exact ⟨R1, rfl⟩
        have := due_is subc u v (k := k) (costs := C) (r := r - a * C) (R := fun e => ms.getD (a * C + e) 0) subc_nonneg subc_le (fun e he => (hR' e he).1) hd (hC2 ()) (by have := hok.2.1; omega)
          (fun e he => hok.2.2.1 (a * C + e) _ (by omega) (by omega) (hR' e (by have := hok.2.1; omega)).2) (fun e he1 he2 => hok.2.2.2 (a * C + e) _ (by omega) (by omega) (hR' e he2).2)
        have := hok.1
        omega
      repeat' (walk_at "gs1")
      rename FS _ _ _ _ _ _ _ _ _ _ => hOld
      refine slToN (l := u) (i := i) hOld hd.2.1 (Nat.le_trans hu40 (by decide)) ?_
      clear hOld; intro ta sa Ha
      repeat' (walk_at "gs1")
      rename FS _ _ _ _ _ _ _ _ _ _ => hOld
      rw [← hj]
      refine slToN (l := v) (i := j) hOld hd.2.2 (Nat.le_trans hv40 (by decide)) ?_
      clear hOld; intro tb sb Hb
      repeat' (walk_at "go")
      rename FS _ _ _ _ _ _ _ _ _ _ => hOld
      refine tells_call (hR.less (by decide)) (hOld.gg (GG.st _)) (fun x hx => hus x (List.mem_of_mem_take hx)) (fun x hx => hvs x (List.mem_of_mem_take hx)) (Nat.le_trans (List.length_take_le' _ _) hu40) (Nat.le_trans (List.length_take_le' _ _) hv40) (by rw [hdue]; rfl) (by rw [Int.fmod_eq_emod_of_nonneg _ (by decide)]; omega) ?_
      intro s9 k9
      have H9 := hOld.keeps k9
      clear hOld k9
      repeat' (walk_at "go")
      · exact absurd (show (!true) = true by assumption) (by decide)
      rw [hQ2]
      exact forNext (T ++ L) (by assumption) ⟨_, _, _, _, _, rfl, rfl, rfl⟩
    · clear H7 hr7
      rintro _ _ _ s₈ ⟨tk, tl, o3, o4, o5, rfl, rfl, rfl⟩ H₈
      repeat' (walk_at "go")
      rename FS _ _ _ _ _ _ _ _ _ _ => hOld
      obtain ⟨f, hf⟩ := get_some (l := fs) (i := a % 8) (by omega)
      rw [c_km hk, c_mod8]
      refine idxL' (hOld.lstQ (List.mem_append_left _ (List.mem_append_right _ mDf)) (fun o ho => ho)) hys (by omega) (k := a % 8) (m := (f : Int)) (by rw [List.getElem?_map, hf]; rfl) rfl ?_
      intro u9
      repeat' (walk_at "go")
      rename FS _ _ _ _ _ _ _ _ _ _ => hOld
      refine modI hOld (by omega) ?_
      clear hOld; intro tm sm Hm
      obtain ⟨e, hee, heC⟩ : ∃ e : Nat, ((f : Int) + 2 * (k.natAbs : Int)).fmod (C : Int) = (e : Int) ∧ e < C := by
        rw [Int.fmod_eq_emod_of_nonneg _ (by omega)]
        have e1 := Int.emod_nonneg ((f : Int) + 2 * (k.natAbs : Int)) (b := (C : Int)) (by omega)
        have e2 := Int.emod_lt_of_pos ((f : Int) + 2 * (k.natAbs : Int)) (b := (C : Int)) (by omega)
        exact ⟨(((f : Int) + 2 * (k.natAbs : Int)) % (C : Int)).toNat, by omega, by omega⟩
      rw [hee]
      repeat' (walk_at "go")
      rename FS _ _ _ _ _ _ _ _ _ _ => hOld
      rw [List.append_assoc] at hOld
      refine stands_call (hR.less (by decide)) (hOld.gg (GG.st _)) (hOld.gh (GG.st _) hT) hus hvs hu40 hv40 (by omega) (by omega) (hOld.tabAt hT) ?_
      intro r tr c' s9 k9 h79 hcd hor q1 q2 q3 q4
      obtain ⟨T', hT', H9⟩ := hOld.tabStep hT k9 h79 hcd hor
      clear hOld k9 h79 hcd hor
      obtain ⟨_, q, hq1, hq2⟩ := hget a e ha heC
      rw [← hk] at hq2
      have hr := stands_is subc u v (r := r) hq2 (by omega) rfl rfl q1 q2 q3 q4
      clear q1 q2 q3 q4
      repeat' (walk_at "go")
      rename FS _ _ _ _ _ _ _ _ _ _ => hOld
      rw [show ((a * C : Nat) : Int) + (e : Int) = ((a * C + e : Nat) : Int) by omega]
      refine idxL' (hOld.lstQ (List.mem_append_right _ (List.mem_append_left _ mDr)) (fun o ho => ho)) hzs (by omega) (k := a * C + e) hq1 rfl ?_
      intro u10
      repeat' (walk_at "go")
      · have hx : (!decide ((r : Int) = max (max 0 (-k)) (q + 1))) = true := by assumption
        rw [decide_eq_true hr] at hx
        cases hx
      rename FS _ _ _ _ _ _ _ _ _ _ => hOld
      rw [← List.append_assoc] at hOld
      rw [hQ1]
      exact forNext (T' ++ L) hOld ⟨T', _, _, _, _, _, _, _, _, _, _, rfl, rfl, rfl, hT'⟩
  · rintro _ _ _ s₈ ⟨T, t1, t2, t3, t4, t5, o1, o2, o3, o4, o5, rfl, rfl, rfl, hT⟩ H₈
    repeat' (walk_at "go")
    rename FS _ _ _ _ _ _ _ _ _ _ => hOld
    rw [List.append_nil] at hOld
    obtain ⟨ps, hps, _⟩ := hOld.tabAt hT
    exact h _ hOld.kept ⟨ps, hps⟩
end Mine
namespace Mine
theorem FS.ofFrG {G : Heap → Prop} {s₁ : Shared} {env : Env} {h₁ : Heap} {tk₁ : Nat} {P : Addr} {ps : Array Value} {m : Str → Option Value} {ns : List Str} {vs : List (Option Value)} (hL : env.locals = s₁.heap.objs.size) (hC : env.cells = []) (F : Fr (hideAll s₁.heap [P]) s₁.heap.objs.size h₁ m) (g : G (hideAll s₁.heap [P]))
    (hnd : ns.Nodup) (hv : ∀ x v, At ns vs x v → m x = some v) (hP : h₁.get? P = some (tabObj ps) ∧ P ≠ s₁.heap.objs.size) :
    FS G true (hideS P s₁) env ns vs [] [] [(P, fun o => o = tabObj ps)] { s₁ with heap := h₁, toks := tk₁ } := by
  refine ⟨⟨h₁, tk₁, rfl⟩, F.keep, g, hnd, List.nodup_nil, ⟨m, by rw [hL]; exact F.ns, hv⟩, fun x o a => (by cases a), fun x y c e => (by rw [hC] at e; cases e), fun p hp => ?_, by simp, fun _ => hide_fresh (Heap.get?_none_of_le (by rw [hL]; exact Nat.le_refl _))⟩
  rw [List.mem_singleton] at hp
  subst hp
  exact ⟨⟨_, hP.1, rfl⟩, by rw [hL]; exact hP.2, hide_none⟩
theorem room_law6 (env : Env) : Room (callerA.deeper env) 6 := Room.deeper ⟨by decide, by decide, rfl⟩ env
end Mine
theorem PySem.Challenge.cw_pu0024_01_holds : PySem.Challenge.rw_pu0024_01.Holds :=
  Mine.hd1 (by
  k_go0
  rename Fr _ _ _ _ => F
  rename News _ _ _ _ => N
  rename Frag.In _ _ => KX
  rename Top _ _ _ _ _ _ => T
  rename IntsAre _ _ => hI
  rename Heap.IsList _ _ _ => hL
  rename CodeHd _ _ _ => CH
  rename _ = #[] => hgens
  obtain ⟨bm, ob, b1, b2, b3, b4, b5, b6⟩ := T.bmain
  refine Mine.wpE (Mine.law_walk (Mine.room_law6 _) ⟨rfl, rfl, rfl, rfl, by kernel_rfl⟩ (Mine.FS.ofFrG rfl rfl F ⟨KX, T.nolimit, ⟨_, T.g⟩, ⟨_, T.b, T.builtins⟩, ⟨_, bm, ob, T.g, b1, b2, b3, b4, b5, b6, CH⟩⟩ (by decide) ?_ ⟨(N _ List.mem_cons_self).1, (N _ List.mem_cons_self).2.1⟩) hL hI (by omega) ?_)
  · intro x v a
    cases a with
    | head => rfl
    | tail a => exact (Mine.at_none (ns := [Str.ofString "figures", Str.ofString "m", Str.ofString "n", Str.ofString "word", Str.ofString "text", Str.ofString "reaches", Str.ofString "costs", Str.ofString "k", Str.ofString "low", Str.ofString "i", Str.ofString "due", Str.ofString "cost"]) a).elim
  · intro s' k hgr
    exact ⟨Mine.goodTrue k hgens (raisesW_false (by wrow_none_raised)) (by wrow_post), hgr, trivial⟩)
