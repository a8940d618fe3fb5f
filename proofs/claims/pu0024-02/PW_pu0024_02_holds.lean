import PyProof.Rows.All
import Wide.All
import OpenK.AllK
import Wide.FinOn
import Lean
import PySem.Challenge.RW_pu0024_02
set_option Elab.async false
set_option maxRecDepth 100000
set_option maxHeartbeats 8000000
namespace Mine
section
variable (c : Nat → Nat → Int)

/-- the least cost of turning one text into another -/
def dist : List Nat → List Nat → Int
  | [], v => 2 * (v.length : Int)
  | x :: u, [] => 2 * ((u.length : Int) + 1)
  | x :: u, y :: v => min (min (dist u (y :: v)) (dist (x :: u) v) + 2) (dist u v + c x y)
termination_by u v => u.length + v.length

inductive Al : List Nat → List Nat → Int → Prop
  | nil : Al [] [] 0
  | del {u v : List Nat} {n : Int} (x : Nat) : Al u v n → Al (x :: u) v (n + 2)
  | ins {u v : List Nat} {n : Int} (y : Nat) : Al u v n → Al u (y :: v) (n + 2)
  | sub {u v : List Nat} {n : Int} (x y : Nat) : Al u v n → Al (x :: u) (y :: v) (n + c x y)

theorem dist_nil_left (v : List Nat) : dist c [] v = 2 * (v.length : Int) := by rw [dist]
theorem dist_nil_right (u : List Nat) : dist c u [] = 2 * (u.length : Int) := by
  cases u with
  | nil => rw [dist]
  | cons x u => rw [dist]; simp
theorem dist_cons (x y : Nat) (u v : List Nat) : dist c (x :: u) (y :: v) = min (min (dist c u (y :: v)) (dist c (x :: u) v) + 2) (dist c u v + c x y) := by rw [dist]

theorem al_nil_left : ∀ v : List Nat, Al c [] v (2 * (v.length : Int))
  | [] => by simpa using Al.nil
  | y :: v => by
    have := Al.ins (c := c) y (al_nil_left v)
    simpa [Int.mul_add] using this
theorem al_nil_right : ∀ u : List Nat, Al c u [] (2 * (u.length : Int))
  | [] => by simpa using Al.nil
  | x :: u => by
    have := Al.del (c := c) x (al_nil_right u)
    simpa [Int.mul_add] using this

theorem al_dist : ∀ (n : Nat) (u v : List Nat), u.length + v.length ≤ n → Al c u v (dist c u v)
  | 0, u, v, h => by
    have hu : u = [] := List.length_eq_zero_iff.mp (by omega)
    have hv : v = [] := List.length_eq_zero_iff.mp (by omega)
    subst hu hv
    rw [dist_nil_left]; simpa using Al.nil
  | n + 1, [], v, h => by rw [dist_nil_left]; exact al_nil_left c v
  | n + 1, x :: u, [], h => by rw [dist_nil_right]; exact al_nil_right c _
  | n + 1, x :: u, y :: v, h => by
    simp only [List.length_cons] at h
    have h1 := Al.del (c := c) x (al_dist n u (y :: v) (by simp; omega))
    have h2 := Al.ins (c := c) y (al_dist n (x :: u) v (by simp; omega))
    have h3 := Al.sub (c := c) x y (al_dist n u v (by omega))
    rw [dist_cons]
    by_cases e1 : dist c u v + c x y ≤ min (dist c u (y :: v)) (dist c (x :: u) v) + 2
    · rw [Int.min_eq_right e1]; exact h3
    · rw [Int.min_eq_left (by omega)]
      by_cases e2 : dist c u (y :: v) ≤ dist c (x :: u) v
      · rw [Int.min_eq_left e2]; exact h1
      · rw [Int.min_eq_right (by omega)]; exact h2
theorem dist_al (u v : List Nat) : Al c u v (dist c u v) := al_dist c _ u v (Nat.le_refl _)

theorem dist_le {u v : List Nat} {n : Int} (h : Al c u v n) : dist c u v ≤ n := by
  induction h with
  | nil => rw [dist_nil_left]; simp
  | @del u v n x _ ih =>
    cases v with
    | nil => rw [dist_nil_right] at ih ⊢; simp; omega
    | cons y v => rw [dist_cons]; omega
  | @ins u v n y _ ih =>
    cases u with
    | nil => rw [dist_nil_left] at ih ⊢; simp; omega
    | cons x u => rw [dist_cons]; omega
  | @sub u v n x y _ ih => rw [dist_cons]; omega

theorem Al.append {u v u' v' : List Nat} {n m : Int} (h : Al c u v n) (h' : Al c u' v' m) : Al c (u ++ u') (v ++ v') (n + m) := by
  induction h with
  | nil => simpa using h'
  | del x _ ih => have := Al.del (c := c) x ih; rw [show ∀ a b : Int, a + 2 + b = a + b + 2 by intros; omega]; exact this
  | ins y _ ih => have := Al.ins (c := c) y ih; rw [show ∀ a b : Int, a + 2 + b = a + b + 2 by intros; omega]; exact this
  | sub x y _ ih => have := Al.sub (c := c) x y ih; rw [show ∀ a b e : Int, a + e + b = a + b + e by intros; omega]; exact this
theorem Al.rev {u v : List Nat} {n : Int} (h : Al c u v n) : Al c u.reverse v.reverse n := by
  induction h with
  | nil => exact .nil
  | del x _ ih =>
    have := ih.append c (Al.del (c := c) x .nil)
    simpa using this
  | ins y _ ih =>
    have := ih.append c (Al.ins (c := c) y .nil)
    simpa using this
  | sub x y _ ih =>
    have := ih.append c (Al.sub (c := c) x y .nil)
    simpa using this
theorem dist_rev (u v : List Nat) : dist c u.reverse v.reverse = dist c u v := by
  apply Int.le_antisymm
  · exact dist_le c ((dist_al c u v).rev c)
  · have := dist_le c ((dist_al c u.reverse v.reverse).rev c)
    simpa using this
theorem dist_snoc (u v : List Nat) (x y : Nat) : dist c (u ++ [x]) (v ++ [y]) = min (min (dist c u (v ++ [y])) (dist c (u ++ [x]) v) + 2) (dist c u v + c x y) := by
  have e := dist_cons c x y u.reverse v.reverse
  have h1 := dist_rev c (u ++ [x]) (v ++ [y])
  have h2 := dist_rev c u (v ++ [y])
  have h3 := dist_rev c (u ++ [x]) v
  have h4 := dist_rev c u v
  simp only [List.reverse_append, List.reverse_cons, List.reverse_nil, List.nil_append, List.cons_append] at h1 h2 h3
  rw [← h1, ← h2, ← h3, ← h4]; exact e

theorem dist_swap (hs : ∀ x y, c x y = c y x) (u v : List Nat) : dist c u v = dist c v u := by
  have key : ∀ {u v : List Nat} {n : Int}, Al c u v n → Al c v u n := by
    intro u v n h
    induction h with
    | nil => exact .nil
    | del x _ ih => exact .ins x ih
    | ins y _ ih => exact .del y ih
    | sub x y _ ih => rw [hs]; exact .sub y x ih
  exact Int.le_antisymm (dist_le c (key (dist_al c v u))) (dist_le c (key (dist_al c u v)))

theorem dist_lip (h0 : ∀ x y, 0 ≤ c x y) (y : Nat) (u v : List Nat) : dist c u v ≤ dist c u (y :: v) + 2 := by
  have key : ∀ {u w : List Nat} {n : Int}, Al c u w n → ∀ y v, w = y :: v → ∃ m, m ≤ n + 2 ∧ Al c u v m := by
    intro u w n h
    induction h with
    | nil => intro y v e; cases e
    | del x _ ih =>
      intro y v e
      obtain ⟨m, hm, h⟩ := ih y v e
      exact ⟨m + 2, by omega, .del x h⟩
    | @ins u w n y' h _ => intro y v e; cases e; exact ⟨n, by omega, h⟩
    | @sub u w n x y' h _ => intro y v e; cases e; exact ⟨n + 2, by have := h0 x y'; omega, .del x h⟩
  obtain ⟨m, hm, h⟩ := key (dist_al c u (y :: v)) y v rfl
  exact Int.le_trans (dist_le c h) hm
theorem dist_lip' (h0 : ∀ x y, 0 ≤ c x y) (x : Nat) (u v : List Nat) : dist c u v ≤ dist c (x :: u) v + 2 := by
  have key : ∀ {w v : List Nat} {n : Int}, Al c w v n → ∀ x u, w = x :: u → ∃ m, m ≤ n + 2 ∧ Al c u v m := by
    intro w v n h
    induction h with
    | nil => intro y v e; cases e
    | ins y _ ih =>
      intro x u e
      obtain ⟨m, hm, h⟩ := ih x u e
      exact ⟨m + 2, by omega, .ins y h⟩
    | @del w v n x' h _ => intro x u e; cases e; exact ⟨n, by omega, h⟩
    | @sub w v n x' y h _ => intro x u e; cases e; exact ⟨n + 2, by have := h0 x' y; omega, .ins y h⟩
  obtain ⟨m, hm, h⟩ := key (dist_al c (x :: u) v) x u rfl
  exact Int.le_trans (dist_le c h) hm
theorem dist_same (h0 : ∀ x y, 0 ≤ c x y) (hz : ∀ x, c x x = 0) (x : Nat) (u v : List Nat) : dist c (x :: u) (x :: v) = dist c u v := by
  have h1 := dist_lip c h0 x u v
  have h2 := dist_lip' c h0 x u v
  rw [dist_cons, hz]; omega
theorem dist_pre (h0 : ∀ x y, 0 ≤ c x y) (hz : ∀ x, c x x = 0) : ∀ (p u v : List Nat), dist c (p ++ u) (p ++ v) = dist c u v
  | [], u, v => rfl
  | x :: p, u, v => by rw [List.cons_append, List.cons_append, dist_same c h0 hz, dist_pre h0 hz p]
theorem dist_post (h0 : ∀ x y, 0 ≤ c x y) (hz : ∀ x, c x x = 0) (p u v : List Nat) : dist c (u ++ p) (v ++ p) = dist c u v := by
  rw [← dist_rev c (u ++ p), List.reverse_append, List.reverse_append, dist_pre c h0 hz, dist_rev]
theorem dist_nonneg (h0 : ∀ x y, 0 ≤ c x y) (u v : List Nat) : 0 ≤ dist c u v := by
  have := dist_al c u v
  generalize dist c u v = n at this
  induction this with
  | nil => exact Int.le_refl _
  | del _ _ ih => omega
  | ins _ _ ih => omega
  | sub x y _ ih => have := h0 x y; omega
theorem dist_self (h0 : ∀ x y, 0 ≤ c x y) (hz : ∀ x, c x x = 0) (u : List Nat) : dist c u u = 0 := by
  have := dist_pre c h0 hz u [] []
  simpa [dist_nil_left] using this
theorem dist_len (h0 : ∀ x y, 0 ≤ c x y) (u v : List Nat) : 2 * (v.length : Int) - 2 * u.length ≤ dist c u v := by
  have := dist_al c u v
  generalize dist c u v = n at this
  induction this with
  | nil => simp
  | del _ _ ih => simp; omega
  | ins _ _ ih => simp; omega
  | sub x y _ ih => have := h0 x y; simp; omega
end

section
variable (c : Nat → Nat → Int) (u v : List Nat)
def dd (i j : Nat) : Int := dist c (u.take i) (v.take j)
theorem dd_zero_left (j : Nat) (hj : j ≤ v.length) : dd c u v 0 j = 2 * (j : Int) := by
  unfold dd; rw [List.take_zero, dist_nil_left, List.length_take]; omega
theorem dd_zero_right (i : Nat) (hi : i ≤ u.length) : dd c u v i 0 = 2 * (i : Int) := by
  unfold dd; rw [List.take_zero, dist_nil_right, List.length_take]; omega
theorem take_snoc {l : List Nat} {i x : Nat} (h : l[i]? = some x) : l.take (i + 1) = l.take i ++ [x] := by
  rw [List.take_add_one, h]; rfl
theorem dd_succ {i j x y : Nat} (hx : u[i]? = some x) (hy : v[j]? = some y) : dd c u v (i + 1) (j + 1) = min (min (dd c u v i (j + 1)) (dd c u v (i + 1) j) + 2) (dd c u v i j + c x y) := by
  unfold dd
  rw [take_snoc hx, take_snoc hy, dist_snoc]
theorem dd_whole : dd c u v u.length v.length = dist c u v := by unfold dd; rw [List.take_length, List.take_length]

theorem get_some {l : List Nat} {i : Nat} (h : i < l.length) : ∃ x, l[i]? = some x := ⟨l[i], List.getElem?_eq_getElem h⟩

/-- a row is not below what the row ahead of it is not below -/
theorem dd_row (h0 : ∀ x y, 0 ≤ c x y) {t : Int} {j : Nat} (hj : j < v.length) (h : ∀ i, i ≤ u.length → t ≤ dd c u v i j) : ∀ i, i ≤ u.length → t ≤ dd c u v i (j + 1) := by
  intro i
  induction i with
  | zero =>
    intro _
    have := h 0 (Nat.zero_le _)
    rw [dd_zero_left c u v _ (by omega)] at this ⊢
    omega
  | succ i ih =>
    intro hi
    obtain ⟨x, hx⟩ := get_some (l := u) (i := i) (by omega)
    obtain ⟨y, hy⟩ := get_some hj
    rw [dd_succ c u v hx hy]
    have h1 := ih (by omega)
    have h2 := h (i + 1) hi
    have h3 := h i (by omega)
    have := h0 x y
    omega
theorem dd_rows (h0 : ∀ x y, 0 ≤ c x y) {t : Int} {j : Nat} (h : ∀ i, i ≤ u.length → t ≤ dd c u v i j) : ∀ k, j + k ≤ v.length → ∀ i, i ≤ u.length → t ≤ dd c u v i (j + k) := by
  intro k
  induction k with
  | zero => intro _; exact h
  | succ k ih => intro hk; exact dd_row c u v h0 (j := j + k) (by omega) (ih (by omega))
/-- the way that the loop goes out early -/
theorem dd_early (h0 : ∀ x y, 0 ≤ c x y) (h2 : ∀ x y, c x y ≤ 2) {t : Int} {j : Nat} (hu : 0 < u.length) (hj : j < v.length) (h : ∀ i, 1 ≤ i → i ≤ u.length → t ≤ dd c u v i (j + 1)) : t ≤ dist c u v := by
  rw [← dd_whole]
  have e : v.length = (j + 1) + (v.length - (j + 1)) := by omega
  rw [e]
  refine dd_rows c u v h0 (fun i hi => ?_) _ (by omega) _ (Nat.le_refl _)
  cases i with
  | succ i => exact h _ (by omega) hi
  | zero =>
    have h1 := h 1 (Nat.le_refl _) hu
    obtain ⟨x, hx⟩ := get_some hu
    obtain ⟨y, hy⟩ := get_some hj
    rw [dd_succ c u v hx hy] at h1
    rw [dd_zero_left c u v _ (by omega)] at h1 ⊢
    have := h2 x y
    rw [dd_zero_left c u v _ (by omega)] at h1
    omega
def rowv (j : Nat) : List Int := (List.range u.length).map fun i => dd c u v (i + 1) j
def rowm (j i : Nat) : List Int := (List.range u.length).map fun k => if k < i then dd c u v (k + 1) (j + 1) else dd c u v (k + 1) j
theorem rowm_zero (j : Nat) : rowm c u v j 0 = rowv c u v j := by simp [rowm, rowv]
theorem rowm_last (j : Nat) : rowm c u v j u.length = rowv c u v (j + 1) := by
  unfold rowm rowv
  refine List.map_congr_left fun k hk => ?_
  rw [List.mem_range] at hk
  rw [if_pos hk]
theorem rowm_get {j i : Nat} (hi : i < u.length) : (rowm c u v j i)[i]? = some (dd c u v (i + 1) j) := by
  unfold rowm
  rw [List.getElem?_map, List.getElem?_range hi]
  simp
theorem rowm_set {j i : Nat} (hi : i < u.length) : (rowm c u v j i).set i (dd c u v (i + 1) (j + 1)) = rowm c u v j (i + 1) := by
  apply List.ext_getElem?
  intro k
  unfold rowm
  rw [List.getElem?_set]
  by_cases h : i = k
  · subst h
    rw [if_pos rfl, List.getElem?_map, List.getElem?_range hi]
    simp [hi]
  · rw [if_neg h, List.getElem?_map, List.getElem?_map]
    by_cases hk : k < u.length
    · rw [List.getElem?_range hk]
      simp only [Option.map_some]
      by_cases h2 : k < i
      · rw [if_pos h2, if_pos (by omega)]
      · rw [if_neg h2, if_neg (by omega)]
    · rw [List.getElem?_eq_none (by simp; omega)]; rfl
theorem rowm_len (j i : Nat) : (rowm c u v j i).length = u.length := by simp [rowm]
theorem rowv_len (j : Nat) : (rowv c u v j).length = u.length := by simp [rowv]
theorem rowv_zero {k : Nat} {m : Int} (h : (rowv c u v 0)[k]? = some m) : k < u.length ∧ m = 2 + (k : Int) * 2 := by
  have hk : k < u.length := by
    have := (List.getElem?_eq_some_iff.mp h).1
    rwa [rowv_len] at this
  refine ⟨hk, ?_⟩
  unfold rowv at h
  rw [List.getElem?_map, List.getElem?_range hk] at h
  simp only [Option.map_some, Option.some.injEq] at h
  rw [← h, dd_zero_right c u v _ (by omega)]
  push_cast; omega
/-- what the loop reckons at one place -/
theorem dd_step (h2 : ∀ x y, c x y ≤ 2) {i j x y : Nat} (hx : u[i]? = some x) (hy : v[j]? = some y) {res : Int} (hr : res = if i = 0 then 2 * (j : Int) else dd c u v i (j + 1)) :
    min (min res (dd c u v (i + 1) j) + 2) (dd c u v i j + c x y) = dd c u v (i + 1) (j + 1) := by
  rw [dd_succ c u v hx hy]
  by_cases h : i = 0
  · subst h
    have hj : j < v.length := (List.getElem?_eq_some_iff.mp hy).1
    rw [if_pos rfl] at hr
    rw [dd_zero_left c u v (j + 1) (by omega), dd_zero_left c u v j (by omega), hr]
    have := h2 x y
    push_cast
    omega
  · rw [if_neg h] at hr; rw [hr]
end
end Mine
namespace Mine
/-- rising lists -/
def Rising (ms : List Int) : Prop := ms.Pairwise (· ≤ ·)
def cnt (ms : List Int) (j : Int) : Nat := (ms.filter fun m => decide (m ≤ j)).length
theorem cnt_le (ms : List Int) (j : Int) : cnt ms j ≤ ms.length := List.length_filter_le _ _
theorem cnt_append (a b : List Int) (j : Int) : cnt (a ++ b) j = cnt a j + cnt b j := by simp [cnt, List.filter_append]
theorem cnt_all {ms : List Int} {j : Int} (h : ∀ m ∈ ms, m ≤ j) : cnt ms j = ms.length := by
  unfold cnt; rw [List.filter_eq_self.mpr]; intro m hm; simpa using h m hm
theorem cnt_none {ms : List Int} {j : Int} (h : ∀ m ∈ ms, j < m) : cnt ms j = 0 := by
  unfold cnt; rw [List.length_eq_zero_iff, List.filter_eq_nil_iff]; intro m hm; have := h m hm; simp; omega
theorem cnt_mono (ms : List Int) {i j : Int} (h : i ≤ j) : cnt ms i ≤ cnt ms j := by
  induction ms with
  | nil => simp [cnt]
  | cons m r ih =>
    have e : ∀ k, cnt (m :: r) k = (if m ≤ k then 1 else 0) + cnt r k := fun k => by
      unfold cnt; rw [List.filter_cons]; by_cases hm : m ≤ k <;> simp [hm] <;> omega
    rw [e, e]; split <;> split <;> omega
theorem rising_get {ms : List Int} (h : Rising ms) {i j : Nat} {m m' : Int} (hij : i ≤ j) (h1 : ms[i]? = some m) (h2 : ms[j]? = some m') : m ≤ m' := by
  obtain ⟨hi, e1⟩ := List.getElem?_eq_some_iff.mp h1
  obtain ⟨hj, e2⟩ := List.getElem?_eq_some_iff.mp h2
  rcases Nat.lt_or_ge i j with hlt | hge
  · have := List.pairwise_iff_getElem.mp h i j hi hj hlt
    omega
  · have : i = j := by omega
    subst this; rw [h1] at h2; cases h2; exact Int.le_refl _
/-- where a count parts a list -/
theorem cnt_parts {ms : List Int} {j : Int} {r : Nat} (hr : r ≤ ms.length) (h1 : ∀ (k : Nat) (m : Int), k < r → ms[k]? = some m → m ≤ j) (h2 : ∀ (k : Nat) (m : Int), r ≤ k → k < ms.length → ms[k]? = some m → j < m) : r = cnt ms j := by
  have e : ms = ms.take r ++ ms.drop r := (List.take_append_drop r ms).symm
  rw [e, cnt_append, cnt_all (ms := ms.take r), cnt_none (ms := ms.drop r)]
  · rw [List.length_take]; omega
  · intro m hm
    obtain ⟨k, hk⟩ := List.mem_iff_getElem?.mp hm
    rw [List.getElem?_drop] at hk
    exact h2 (r + k) m (by omega) (List.getElem?_eq_some_iff.mp hk).1 hk
  · intro m hm
    obtain ⟨k, hk⟩ := List.mem_iff_getElem?.mp hm
    have hkr : k < r := by
      have := (List.getElem?_eq_some_iff.mp hk).1
      rw [List.length_take] at this; omega
    rw [List.getElem?_take_of_lt hkr] at hk
    exact h1 k m hkr hk
theorem take_cnt {ms : List Int} (h : Rising ms) {j : Int} : (∀ m ∈ ms.take (cnt ms j), m ≤ j) ∧ (∀ m ∈ ms.drop (cnt ms j), j < m) := by
  induction ms with
  | nil => simp
  | cons m r ih =>
    have hr := List.pairwise_cons.mp h
    have e : cnt (m :: r) j = (if m ≤ j then 1 else 0) + cnt r j := by
      unfold cnt; rw [List.filter_cons]; by_cases hm : m ≤ j <;> simp [hm] <;> omega
    by_cases hm : m ≤ j
    · rw [e, if_pos hm, Nat.add_comm, List.take_succ_cons, List.drop_succ_cons]
      refine ⟨fun x hx => ?_, (ih hr.2).2⟩
      rcases List.mem_cons.mp hx with rfl | hx
      · exact hm
      · exact (ih hr.2).1 x hx
    · have z : cnt r j = 0 := cnt_none fun x hx => by have := hr.1 x hx; omega
      rw [e, if_neg hm, z]
      refine ⟨by simp, fun x hx => ?_⟩
      simp only [Nat.add_zero, List.drop_zero] at hx
      rcases List.mem_cons.mp hx with rfl | hx
      · omega
      · have := hr.1 x hx; omega

/-- one step: x + 1 is brought to stand so often -/
def stepL (ms : List Int) (x w : Nat) : List Int :=
  ms.take (cnt ms (x + 1)) ++ List.replicate (cnt ms x + w - cnt ms (x + 1)) ((x : Int) + 1) ++ ms.drop (max (cnt ms (x + 1)) (cnt ms x + w))
theorem stepL_rising {ms : List Int} (h : Rising ms) (x w : Nat) : Rising (stepL ms x w) := by
  obtain ⟨h1, h2⟩ := take_cnt h (j := (x : Int) + 1)
  have hd : ∀ m ∈ ms.drop (max (cnt ms (x + 1)) (cnt ms x + w)), (x : Int) + 1 < m := fun m hm => by
    refine h2 m ?_
    have e : ms.drop (max (cnt ms (x + 1)) (cnt ms x + w)) = (ms.drop (cnt ms (x + 1))).drop (max (cnt ms (x + 1)) (cnt ms x + w) - cnt ms (x + 1)) := by
      rw [List.drop_drop]; congr 1; omega
    rw [e] at hm
    exact List.mem_of_mem_drop hm
  unfold stepL Rising
  rw [List.pairwise_append, List.pairwise_append]
  refine ⟨⟨List.Pairwise.sublist (List.take_sublist _ _) h, List.pairwise_replicate.mpr (.inr (Int.le_refl _)), fun a ha b hb => ?_⟩, List.Pairwise.sublist (List.drop_sublist _ _) h, fun a ha b hb => ?_⟩
  · have := h1 a ha
    have := (List.mem_replicate.mp hb).2
    omega
  · have hb' := hd b hb
    rcases List.mem_append.mp ha with ha | ha
    · have := h1 a ha; omega
    · have := (List.mem_replicate.mp ha).2; omega
theorem stepL_cnt {ms : List Int} (h : Rising ms) (x w : Nat) (j : Nat) : cnt (stepL ms x w) j = if j ≤ x then cnt ms j else max (cnt ms j) (cnt ms x + w) := by
  obtain ⟨h1, h2⟩ := take_cnt h (j := (x : Int) + 1)
  have hx1 : cnt ms x ≤ cnt ms (x + 1) := cnt_mono ms (by omega)
  have hle := cnt_le ms ((x : Int) + 1)
  have hd : ∀ m ∈ ms.drop (max (cnt ms (x + 1)) (cnt ms x + w)), (x : Int) + 1 < m := fun m hm => by
    refine h2 m ?_
    have e : ms.drop (max (cnt ms (x + 1)) (cnt ms x + w)) = (ms.drop (cnt ms (x + 1))).drop (max (cnt ms (x + 1)) (cnt ms x + w) - cnt ms (x + 1)) := by
      rw [List.drop_drop]; congr 1; omega
    rw [e] at hm
    exact List.mem_of_mem_drop hm
  have hms : ms = ms.take (cnt ms (x + 1)) ++ ms.drop (cnt ms (x + 1)) := (List.take_append_drop _ ms).symm
  unfold stepL
  rw [cnt_append, cnt_append]
  by_cases hj : j ≤ x
  · rw [if_pos hj, cnt_none (ms := List.replicate _ _), cnt_none (ms := ms.drop _)]
    · have e : cnt ms j = cnt (ms.take (cnt ms (x + 1))) j + cnt (ms.drop (cnt ms (x + 1))) j := by
        rw [← cnt_append, List.take_append_drop]
      rw [e, cnt_none (ms := ms.drop (cnt ms (x + 1)))]
      intro m hm; have := h2 m hm; omega
    · intro m hm; have := hd m hm; omega
    · intro m hm; have := (List.mem_replicate.mp hm).2; omega
  · rw [if_neg hj, cnt_all (ms := ms.take _), cnt_all (ms := List.replicate _ _)]
    · rw [List.length_take, List.length_replicate]
      -- the rest: how many of the dropped ones are at most j
      obtain ⟨g1, g2⟩ := take_cnt h (j := (j : Int))
      have hxj : cnt ms (x + 1) ≤ cnt ms j := cnt_mono ms (by omega)
      have hlj := cnt_le ms (j : Int)
      have key : ∀ r, cnt ms (x + 1) ≤ r → cnt (ms.drop r) j = cnt ms j - r := by
        intro r hr
        by_cases hrj : r ≤ cnt ms j
        · have e : ms.drop r = (ms.take (cnt ms j)).drop r ++ ms.drop (cnt ms j) := by
            rw [List.drop_take]
            have : ms.drop r = (ms.drop r).take (cnt ms j - r) ++ (ms.drop r).drop (cnt ms j - r) := (List.take_append_drop _ _).symm
            rw [List.drop_drop, show r + (cnt ms j - r) = cnt ms j by omega] at this
            exact this
          rw [e, cnt_append, cnt_all (ms := (ms.take (cnt ms j)).drop r) (fun m hm => g1 m (List.mem_of_mem_drop hm)), cnt_none (ms := ms.drop (cnt ms j)) g2]
          rw [List.length_drop, List.length_take]; omega
        · rw [cnt_none (ms := ms.drop r)]
          · omega
          · intro m hm
            have e : ms.drop r = (ms.drop (cnt ms j)).drop (r - cnt ms j) := by rw [List.drop_drop]; congr 1; omega
            rw [e] at hm
            exact g2 m (List.mem_of_mem_drop hm)
      rw [key _ (by omega)]
      omega
    · intro m hm; have := (List.mem_replicate.mp hm).2; omega
    · intro m hm; have := h1 m hm; omega
end Mine
namespace Mine
section
variable (wr : Nat → Nat → Nat)
/-- so many steps of _law_grown -/
def growW (ms : List Int) (f : Nat) (gs : List Nat) : Nat → List Int
  | 0 => ms
  | k + 1 => stepL (growW ms f gs k) (gs.length - 1 - k) (wr f (gs.getD (gs.length - 1 - k) 0))
theorem growW_rising {ms : List Int} (h : Rising ms) (f : Nat) (gs : List Nat) : ∀ k, Rising (growW wr ms f gs k)
  | 0 => h
  | k + 1 => stepL_rising (growW_rising h f gs k) _ _
theorem stepL_len (ms : List Int) (x w : Nat) : (stepL ms x w).length ≤ ms.length + w := by
  unfold stepL
  have h1 := cnt_le ms ((x : Int) + 1)
  have h2 := cnt_le ms (x : Int)
  have h3 : cnt ms x ≤ cnt ms (x + 1) := cnt_mono ms (by omega)
  simp only [List.length_append, List.length_take, List.length_replicate, List.length_drop]
  omega
theorem growW_len (h4 : ∀ f g, wr f g ≤ 4) (ms : List Int) (f : Nat) (gs : List Nat) : ∀ k, (growW wr ms f gs k).length ≤ ms.length + 4 * k
  | 0 => by simp [growW]
  | k + 1 => by
    have h1 := stepL_len (growW wr ms f gs k) (gs.length - 1 - k) (wr f (gs.getD (gs.length - 1 - k) 0))
    have h2 := h4 f (gs.getD (gs.length - 1 - k) 0)
    have h3 := growW_len h4 ms f gs k
    simp only [growW]; omega
theorem stepL_mem {ms : List Int} {x w n : Nat} (h : ∀ m ∈ ms, 1 ≤ m ∧ m ≤ (n : Int)) (hx : x < n) : ∀ m ∈ stepL ms x w, 1 ≤ m ∧ m ≤ (n : Int) := by
  intro m hm
  unfold stepL at hm
  rcases List.mem_append.mp hm with hm | hm
  · rcases List.mem_append.mp hm with hm | hm
    · exact h m (List.mem_of_mem_take hm)
    · have := (List.mem_replicate.mp hm).2; omega
  · exact h m (List.mem_of_mem_drop hm)
theorem growW_mem {ms : List Int} (f : Nat) (gs : List Nat) (h : ∀ m ∈ ms, 1 ≤ m ∧ m ≤ (gs.length : Int)) : ∀ k, k ≤ gs.length → ∀ m ∈ growW wr ms f gs k, 1 ≤ m ∧ m ≤ (gs.length : Int)
  | 0, _ => h
  | k + 1, hk => stepL_mem (growW_mem f gs h k (by omega)) (by omega)
theorem growW_old {ms : List Int} (hr : Rising ms) (f : Nat) (gs : List Nat) : ∀ k j, j + k ≤ gs.length → cnt (growW wr ms f gs k) (j : Nat) = cnt ms (j : Nat)
  | 0, _, _ => rfl
  | k + 1, j, hj => by
    rw [growW, stepL_cnt (growW_rising wr hr f gs k), if_pos (by omega)]
    exact growW_old hr f gs k j (by omega)
theorem growW_new {ms : List Int} (hr : Rising ms) (f : Nat) (gs : List Nat) {j : Nat} (hj : j < gs.length) : ∀ d, d ≤ j →
    cnt (growW wr ms f gs (gs.length - j + d)) ((j + 1 : Nat) : Int) = max (max (cnt ms ((j + 1 : Nat) : Int)) (cnt ms (j : Nat) + wr f (gs.getD j 0))) (cnt (growW wr ms f gs (gs.length - j + d)) (j : Nat))
  | 0, _ => by
    have hk : gs.length - j + 0 = (gs.length - j - 1) + 1 := by omega
    rw [hk, growW, stepL_cnt (growW_rising wr hr f gs _), stepL_cnt (growW_rising wr hr f gs _)]
    have hx : gs.length - 1 - (gs.length - j - 1) = j := by omega
    rw [hx, if_neg (by omega), if_pos (Nat.le_refl _), growW_old wr hr f gs _ j (by omega), growW_old wr hr f gs _ (j + 1) (by omega)]
    have := cnt_mono ms (i := (j : Nat)) (j := ((j + 1 : Nat) : Int)) (by omega)
    omega
  | d + 1, hd => by
    have ih := growW_new hr f gs hj d (by omega)
    have hk : gs.length - j + (d + 1) = (gs.length - j + d) + 1 := by omega
    rw [hk, growW, stepL_cnt (growW_rising wr hr f gs _), stepL_cnt (growW_rising wr hr f gs _)]
    rw [if_neg (by omega), if_neg (by omega), ih]
    omega
theorem growW_done {ms : List Int} (hr : Rising ms) (f : Nat) (gs : List Nat) {j : Nat} (hj : j < gs.length) :
    cnt (growW wr ms f gs gs.length) ((j + 1 : Nat) : Int) = max (max (cnt ms ((j + 1 : Nat) : Int)) (cnt ms (j : Nat) + wr f (gs.getD j 0))) (cnt (growW wr ms f gs gs.length) (j : Nat)) := by
  have := growW_new wr hr f gs hj j (Nat.le_refl _)
  rwa [show gs.length - j + j = gs.length by omega] at this

/-- the lists of _law_lists -/
def listsW (wf gs : List Nat) : Nat → List Int
  | 0 => []
  | i + 1 => growW wr (listsW wf gs i) (wf.getD i 0) gs gs.length
theorem listsW_rising (wf gs : List Nat) : ∀ i, Rising (listsW wr wf gs i)
  | 0 => List.Pairwise.nil
  | i + 1 => growW_rising wr (listsW_rising wf gs i) _ _ _
theorem listsW_mem (wf gs : List Nat) : ∀ i, ∀ m ∈ listsW wr wf gs i, 1 ≤ m ∧ m ≤ (gs.length : Int)
  | 0 => by simp [listsW]
  | i + 1 => growW_mem wr _ gs (listsW_mem wf gs i) _ (Nat.le_refl _)
theorem listsW_len (h4 : ∀ f g, wr f g ≤ 4) (wf gs : List Nat) : ∀ i, (listsW wr wf gs i).length ≤ 4 * gs.length * i
  | 0 => by simp [listsW]
  | i + 1 => by
    have h1 := growW_len wr h4 (listsW wr wf gs i) (wf.getD i 0) gs gs.length
    have h2 := listsW_len h4 wf gs i
    rw [listsW, Nat.mul_succ]; omega
theorem cnt_zero {ms : List Int} (h : ∀ m ∈ ms, 1 ≤ m) : cnt ms ((0 : Nat) : Int) = 0 := cnt_none fun m hm => by have := h m hm; omega
theorem listsW_law (c : Nat → Nat → Int) (sg : Nat → Nat) (hw : ∀ f g, ((wr f g : Nat) : Int) = 4 - c (sg f) (sg g)) (wf gs : List Nat) : ∀ i, i ≤ wf.length → ∀ j, j ≤ gs.length →
    (cnt (listsW wr wf gs i) (j : Nat) : Int) = 2 * ((i : Int) + (j : Int)) - dd c (wf.map sg) (gs.map sg) i j
  | 0, _, j, hj => by
    rw [dd_zero_left c _ _ j (by simpa using hj)]
    simp [listsW, cnt]
  | i + 1, hi, 0, _ => by
    rw [dd_zero_right c _ _ (i + 1) (by simpa using hi), cnt_zero fun m hm => (listsW_mem wr wf gs _ m hm).1]
    push_cast; omega
  | i + 1, hi, j + 1, hj => by
    have h1 := listsW_law c sg hw wf gs i (by omega) (j + 1) hj
    have h2 := listsW_law c sg hw wf gs i (by omega) j (by omega)
    have h3 := listsW_law c sg hw wf gs (i + 1) hi j (by omega)
    have hx : wf[i]? = some (wf.getD i 0) := by rw [List.getD_eq_getElem?_getD, List.getElem?_eq_getElem (by omega)]; rfl
    have hy : gs[j]? = some (gs.getD j 0) := by rw [List.getD_eq_getElem?_getD, List.getElem?_eq_getElem (by omega)]; rfl
    have hx' : (wf.map sg)[i]? = some (sg (wf.getD i 0)) := by rw [List.getElem?_map, hx]; rfl
    have hy' : (gs.map sg)[j]? = some (sg (gs.getD j 0)) := by rw [List.getElem?_map, hy]; rfl
    have hs := dd_succ c (wf.map sg) (gs.map sg) hx' hy'
    have hd := growW_done wr (listsW_rising wr wf gs i) (wf.getD i 0) gs (j := j) (by omega)
    have hw' := hw (wf.getD i 0) (gs.getD j 0)
    rw [hs]
    simp only [listsW] at h3 ⊢
    rw [hd]
    push_cast at h1 h2 h3 ⊢
    omega
end
/-- a rising list by its counts -/
theorem rising_parts {ms : List Int} (hr : Rising ms) (h1 : ∀ m ∈ ms, 1 ≤ m) : ∀ n : Nat, ((List.range n).map fun j => List.replicate (cnt ms ((j + 1 : Nat) : Int) - cnt ms (j : Nat)) ((j + 1 : Nat) : Int)).flatten = ms.take (cnt ms (n : Nat))
  | 0 => by rw [cnt_zero h1]; rfl
  | n + 1 => by
    rw [List.range_succ, List.map_append, List.flatten_append, rising_parts hr h1 n]
    have hm := cnt_mono ms (i := (n : Nat)) (j := ((n + 1 : Nat) : Int)) (by omega)
    have hl := cnt_le ms ((n + 1 : Nat) : Int)
    have e : ms.take (cnt ms ((n + 1 : Nat) : Int)) = ms.take (cnt ms (n : Nat)) ++ (ms.drop (cnt ms (n : Nat))).take (cnt ms ((n + 1 : Nat) : Int) - cnt ms (n : Nat)) := by
      rw [← List.take_add]; congr 1; omega
    rw [e]
    congr 1
    simp only [List.map_cons, List.map_nil, List.flatten_cons, List.flatten_nil, List.append_nil]
    symm
    rw [List.eq_replicate_iff]
    refine ⟨by rw [List.length_take, List.length_drop]; omega, fun m hm' => ?_⟩
    have g2 := (take_cnt hr (j := (n : Nat))).2 m (List.mem_of_mem_take hm')
    have g1 := (take_cnt hr (j := ((n + 1 : Nat) : Int))).1 m (by rw [e]; exact List.mem_append_right _ hm')
    omega
theorem rising_whole {ms : List Int} (hr : Rising ms) {n : Nat} (h1 : ∀ m ∈ ms, 1 ≤ m ∧ m ≤ (n : Int)) : ((List.range n).map fun j => List.replicate (cnt ms ((j + 1 : Nat) : Int) - cnt ms (j : Nat)) ((j + 1 : Nat) : Int)).flatten = ms := by
  rw [rising_parts hr (fun m hm => (h1 m hm).1), cnt_all (fun m hm => (h1 m hm).2), List.take_length]
end Mine
open PySem PySem.W PyProof.Rows
namespace Mine

/-- the value that a name has in a list of names and values -/
inductive At : List Str → List (Option Value) → Str → Value → Prop
  | head {x : Str} {ns : List Str} {v : Value} {vs : List (Option Value)} : At (x :: ns) (some v :: vs) x v
  | tail {x y : Str} {ns : List Str} {v : Value} {o : Option Value} {vs : List (Option Value)} : At ns vs x v → At (y :: ns) (o :: vs) x v
inductive Put : List Str → List (Option Value) → Str → Value → List (Option Value) → Prop
  | head {x : Str} {ns : List Str} {v : Value} {o : Option Value} {vs : List (Option Value)} : Put (x :: ns) (o :: vs) x v (some v :: vs)
  | tail {x y : Str} {ns : List Str} {v : Value} {o : Option Value} {vs vs' : List (Option Value)} : Put ns vs x v vs' → Put (y :: ns) (o :: vs) x v (o :: vs')

theorem At.mem {ns : List Str} {vs : List (Option Value)} {x : Str} {v : Value} (a : At ns vs x v) : x ∈ ns := by
  induction a with
  | head => exact List.mem_cons_self
  | tail _ ih => exact List.mem_cons_of_mem _ ih
theorem Put.mem {ns : List Str} {vs vs' : List (Option Value)} {x : Str} {v : Value} (a : Put ns vs x v vs') : x ∈ ns := by
  induction a with
  | head => exact List.mem_cons_self
  | tail _ ih => exact List.mem_cons_of_mem _ ih

theorem Put.at {ns : List Str} {vs vs' : List (Option Value)} {x : Str} {w : Value} (p : Put ns vs x w vs') :
    ns.Nodup → ∀ {y : Str} {u : Value}, At ns vs' y u → (y = x ∧ u = w) ∨ (y ≠ x ∧ At ns vs y u) := by
  induction p with
  | head =>
    intro hnd y u a
    cases a with
    | head => exact .inl ⟨rfl, rfl⟩
    | tail a => exact .inr ⟨fun e => (List.nodup_cons.mp hnd).1 (e ▸ a.mem), .tail a⟩
  | tail p ih =>
    intro hnd y u a
    have hx := p.mem
    cases a with
    | head => exact .inr ⟨fun e => (List.nodup_cons.mp hnd).1 (e ▸ hx), .head⟩
    | tail a =>
      rcases ih (List.nodup_cons.mp hnd).2 a with h | h
      · exact .inl h
      · exact .inr ⟨h.1, .tail h.2⟩

/-- the cell of a name: bound or not -/
inductive AtO : List Str → List (Option Value) → Str → Option Value → Prop
  | head {x : Str} {ns : List Str} {v : Option Value} {vs : List (Option Value)} : AtO (x :: ns) (v :: vs) x v
  | tail {x y : Str} {ns : List Str} {v o : Option Value} {vs : List (Option Value)} : AtO ns vs x v → AtO (y :: ns) (o :: vs) x v
theorem AtO.mem {ns : List Str} {vs : List (Option Value)} {x : Str} {v : Option Value} (a : AtO ns vs x v) : x ∈ ns := by
  induction a with
  | head => exact List.mem_cons_self
  | tail _ ih => exact List.mem_cons_of_mem _ ih
theorem At.o {ns : List Str} {vs : List (Option Value)} {x : Str} {v : Value} (a : At ns vs x v) : AtO ns vs x (some v) := by
  induction a with
  | head => exact .head
  | tail _ ih => exact .tail ih
theorem Put.o {ns : List Str} {vs vs' : List (Option Value)} {x : Str} {w : Value} (p : Put ns vs x w vs') : ∃ o, AtO ns vs x o := by
  induction p with
  | head => exact ⟨_, .head⟩
  | tail _ ih => exact ⟨_, .tail ih.choose_spec⟩
theorem Put.atO {ns : List Str} {vs vs' : List (Option Value)} {x : Str} {w : Value} (p : Put ns vs x w vs') :
    ns.Nodup → ∀ {y : Str} {u : Option Value}, AtO ns vs' y u → (y = x ∧ u = some w) ∨ (y ≠ x ∧ AtO ns vs y u) := by
  induction p with
  | head =>
    intro hnd y u a
    cases a with
    | head => exact .inl ⟨rfl, rfl⟩
    | tail a => exact .inr ⟨fun e => (List.nodup_cons.mp hnd).1 (e ▸ a.mem), .tail a⟩
  | tail p ih =>
    intro hnd y u a
    have hx := p.mem
    cases a with
    | head => exact .inr ⟨fun e => (List.nodup_cons.mp hnd).1 (e ▸ hx), .head⟩
    | tail a =>
      rcases ih (List.nodup_cons.mp hnd).2 a with h | h
      · exact .inl h
      · exact .inr ⟨h.1, .tail h.2⟩

abbrev Led := List (Addr × (Obj → Prop))
/-- an object that is a list -/
def LstO (vs : List Value) : Obj → Prop := fun o => o.cls = .type "list" ∧ ∃ n, o.data = .seq vs.toArray n

/-- what is known of the heap of the program's top, at every heap above it -/
structure Stable (G : Heap → Prop) : Prop where
  up : ∀ h h' : Heap, G h → (∀ b o, h.get? b = some o → h'.get? b = some o) → G h'

structure FS (G : Heap → Prop) (own : Bool) (s₀ : Shared) (env : Env) (ns : List Str) (vs : List (Option Value)) (cns : List Str) (cvs : List (Option Value)) (led : Led) (s : Shared) : Prop where
  same : ∃ h tk, s = { s₀ with heap := h, toks := tk }
  keep : ∀ b o, s₀.heap.get? b = some o → s.heap.get? b = some o
  g : G s₀.heap
  nd : ns.Nodup
  cnd : cns.Nodup
  vars : ∃ m, s.heap.Ns env.locals m ∧ ∀ x v, At ns vs x v → m x = some v
  cells : ∀ x o, AtO cns cvs x o → ∃ c, env.cells.lookup x = some c ∧ s.heap.IsCell c o ∧ (own = true → s₀.heap.get? c = none) ∧ c ≠ env.locals ∧ ∀ p ∈ led, p.1 ≠ c
  inj : ∀ x y c, env.cells.lookup x = some c → env.cells.lookup y = some c → x = y
  has : ∀ p ∈ led, (∃ o, s.heap.get? p.1 = some o ∧ p.2 o) ∧ p.1 ≠ env.locals ∧ s₀.heap.get? p.1 = none
  apart : led.Pairwise fun x y => x.1 ≠ y.1
  fresh : own = true → s₀.heap.get? env.locals = none

theorem Keeps.refl' (s : Shared) : Keeps s s := ⟨s.heap, s.toks, rfl, fun _ _ e => e⟩
theorem Keeps.trans' {s₁ s₂ s₃ : Shared} (a : Keeps s₁ s₂) (b : Keeps s₂ s₃) : Keeps s₁ s₃ := by
  obtain ⟨h, tk, rfl, k⟩ := a
  obtain ⟨h', tk', rfl, k'⟩ := b
  exact ⟨h', tk', rfl, fun b o e => k' b o (k b o e)⟩
theorem Keeps.up {s₁ s₂ : Shared} (a : Keeps s₁ s₂) : ∀ b o, s₁.heap.get? b = some o → s₂.heap.get? b = some o := by
  obtain ⟨h, tk, rfl, k⟩ := a
  exact k
theorem keeps_tok (s : Shared) (n : Nat) : Keeps s { s with toks := n } := ⟨s.heap, n, rfl, fun _ _ e => e⟩
theorem keeps_of {s : Shared} {h : Heap} {n : Nat} (k : ∀ b o, s.heap.get? b = some o → h.get? b = some o) : Keeps s { s with heap := h, toks := n } := ⟨h, n, rfl, k⟩

section
variable {G : Heap → Prop} {own : Bool} {s₀ : Shared} {env : Env} {ns cns : List Str} {vs cvs : List (Option Value)} {led : Led} {s : Shared}

theorem FS.keeps (H : FS G own s₀ env ns vs cns cvs led s) {s' : Shared} (k : Keeps s s') : FS G own s₀ env ns vs cns cvs led s' := by
  obtain ⟨h, tk, rfl, k⟩ := k
  obtain ⟨h1, tk1, hs⟩ := H.same
  refine ⟨⟨h, tk, by rw [hs]⟩, fun b o e => k b o (H.keep b o e), H.g, H.nd, H.cnd, ?_, ?_, H.inj, ?_, H.apart, H.fresh⟩
  · obtain ⟨m, hm, hv⟩ := H.vars
    exact ⟨m, hm.keeps k, hv⟩
  · intro x o a
    obtain ⟨c, h1, h2, h3⟩ := H.cells x o a
    exact ⟨c, h1, h2.keeps k, h3⟩
  · intro p hp
    obtain ⟨⟨o, ho, hq⟩, r⟩ := H.has p hp
    exact ⟨⟨o, k _ _ ho, hq⟩, r⟩

theorem FS.gg (SG : Stable G) (H : FS G own s₀ env ns vs cns cvs led s) : G s.heap := SG.up _ _ H.g H.keep
theorem FS.kept (H : FS G own s₀ env ns vs cns cvs led s) : Keeps s₀ s := by
  obtain ⟨h, tk, rfl⟩ := H.same
  exact ⟨h, tk, rfl, H.keep⟩

/-- a plain list -/
def PlO (vs : List Value) : Obj → Prop := fun o => ∃ n, o = ({ cls := .type "list", data := .seq vs.toArray n } : Obj)
theorem PlO.lst {vs : List Value} {o : Obj} (h : PlO vs o) : LstO vs o := by
  obtain ⟨n, rfl⟩ := h
  exact ⟨rfl, n, rfl⟩
theorem FS.lstP (H : FS G own s₀ env ns vs cns cvs led s) {a : Addr} {xs : List Value} (hm : (a, PlO xs) ∈ led) : s.heap.IsList a xs.toArray := by
  obtain ⟨⟨o, ho, hq⟩, _⟩ := H.has _ hm
  exact ⟨o, ho, hq.lst.1, hq.lst.2⟩
theorem FS.base (H : FS G own s₀ env ns vs cns cvs led s) {a : Addr} {xs : List Value} (hb : s₀.heap.IsList a xs.toArray) : s.heap.IsList a xs.toArray := hb.at fun o e => H.keep _ o e
theorem FS.lst (H : FS G own s₀ env ns vs cns cvs led s) {a : Addr} {xs : List Value} (hm : (a, LstO xs) ∈ led) : s.heap.IsList a xs.toArray := by
  obtain ⟨⟨o, ho, hq⟩, _⟩ := H.has _ hm
  exact ⟨o, ho, hq.1, hq.2⟩

/-- a new object, made by what keeps all else -/
theorem FS.new (H : FS G own s₀ env ns vs cns cvs led s) {s' : Shared} (k : Keeps s s') {a : Addr} {P : Obj → Prop} (hf : s.heap.get? a = none) (hp : ∃ o, s'.heap.get? a = some o ∧ P o) :
    FS G own s₀ env ns vs cns cvs ((a, P) :: led) s' := by
  have H' := H.keeps k
  refine { H' with cells := ?_, has := ?_, apart := ?_ }
  · intro x o b
    obtain ⟨c, h1, h2, h3, h4, h5⟩ := H'.cells x o b
    refine ⟨c, h1, h2, h3, h4, fun p hp => ?_⟩
    rcases List.mem_cons.mp hp with rfl | hp
    · obtain ⟨c', e, h2', _⟩ := H.cells x o b
      rw [h1] at e; cases e
      obtain ⟨oc, hoc, _⟩ := h2'
      intro e; subst e; rw [hf] at hoc; cases hoc
    · exact h5 p hp
  · intro p hq
    rcases List.mem_cons.mp hq with rfl | hq
    · refine ⟨hp, ?_, ?_⟩
      · obtain ⟨m, ⟨o, _, _, ho, _⟩, _⟩ := H.vars
        intro e; simp only at e; subst e; rw [hf] at ho; cases ho
      · cases e : s₀.heap.get? a with
        | none => rfl
        | some o => rw [H.keep a o e] at hf; cases hf
    · exact H'.has p hq
  · refine List.pairwise_cons.mpr ⟨fun y hy e => ?_, H.apart⟩
    obtain ⟨⟨o, ho, _⟩, _⟩ := H.has y hy
    simp only at e
    rw [← e, hf] at ho; cases ho

theorem FS.sub (H : FS G own s₀ env ns vs cns cvs led s) {led' : Led} (hs : led'.Sublist led) : FS G own s₀ env ns vs cns cvs led' s :=
  { H with
    cells := fun x o a => let ⟨c, h1, h2, h3, h4, h5⟩ := H.cells x o a; ⟨c, h1, h2, h3, h4, fun p hp => h5 p (hs.mem hp)⟩
    has := fun p hp => H.has p (hs.mem hp)
    apart := H.apart.sublist hs }
theorem FS.drop (H : FS G own s₀ env ns vs cns cvs led s) {p : Addr × (Obj → Prop)} {led' : Led} (e : led = p :: led') : FS G own s₀ env ns vs cns cvs led' s := by
  subst e; exact H.sub (List.sublist_cons_self _ _)

/-- the value of a list of the frame's own is turned -/
theorem FS.setAt (H : FS G own s₀ env ns vs cns cvs led s) {i : Nat} {a : Addr} {P P' : Obj → Prop} {h' : Heap} {n : Nat} (hi : led[i]? = some (a, P)) (hs : ∀ b o, b ≠ a → s.heap.get? b = some o → h'.get? b = some o)
    (hp : ∃ o, h'.get? a = some o ∧ P' o) : FS G own s₀ env ns vs cns cvs (led.set i (a, P')) { s with heap := h', toks := n } := by
  have hm : (a, P) ∈ led := List.mem_of_getElem? hi
  obtain ⟨_, haL, ha0⟩ := H.has _ hm
  obtain ⟨h1, tk1, hs1⟩ := H.same
  have hlt : i < led.length := (List.getElem?_eq_some_iff.mp hi).1
  have hfst : (led.set i (a, P')).map (·.1) = led.map (·.1) := by
    rw [List.map_set]
    apply List.ext_getElem?
    intro j
    rw [List.getElem?_set]
    split
    · rename_i e; subst e
      have e2 : led[i] = (a, P) := (List.getElem?_eq_some_iff.mp hi).2
      simp [hlt, e2]
    · rfl
  have hfm : ∀ p ∈ led.set i (a, P'), ∃ q ∈ led, q.1 = p.1 := fun p hp => by
    have : p.1 ∈ (led.set i (a, P')).map (·.1) := List.mem_map_of_mem hp
    rw [hfst] at this
    obtain ⟨q, hq, e⟩ := List.mem_map.mp this
    exact ⟨q, hq, e⟩
  have hap := List.pairwise_iff_getElem.mp H.apart
  refine ⟨⟨h', n, by rw [hs1]⟩, fun b o e => ?_, H.g, H.nd, H.cnd, ?_, ?_, H.inj, ?_, ?_, H.fresh⟩
  · have hba : b ≠ a := by rintro rfl; simp only at ha0; rw [ha0] at e; cases e
    exact hs b o hba (H.keep b o e)
  · obtain ⟨m, hm', hv⟩ := H.vars
    exact ⟨m, hm'.at' fun o e => hs _ o (Ne.symm haL) e, hv⟩
  · intro x o b
    obtain ⟨c, h1, h2, h3, h4, h5⟩ := H.cells x o b
    refine ⟨c, h1, (let ⟨oc, e1, e2⟩ := h2; ⟨oc, hs _ _ (Ne.symm (h5 _ hm)) e1, e2⟩), h3, h4, fun p hp => ?_⟩
    obtain ⟨q, hq, e⟩ := hfm p hp
    rw [← e]; exact h5 q hq
  · intro p hpm
    obtain ⟨j, hj⟩ := List.mem_iff_getElem?.mp hpm
    rw [List.getElem?_set] at hj
    split at hj
    · rename_i e
      cases hj
      exact ⟨hp, haL, ha0⟩
    · rename_i hne
      obtain ⟨⟨o, ho, hq⟩, r⟩ := H.has p (List.mem_of_getElem? hj)
      have hpa : p.1 ≠ a := by
        have hjl : j < led.length := (List.getElem?_eq_some_iff.mp hj).1
        have e1 : led[j] = p := (List.getElem?_eq_some_iff.mp hj).2
        have e2 : led[i] = (a, P) := (List.getElem?_eq_some_iff.mp hi).2
        rcases Nat.lt_or_gt_of_ne hne with hl | hl
        · have := hap i j hlt hjl hl
          rw [e1, e2] at this; exact Ne.symm this
        · have := hap j i hjl hlt hl
          rw [e1, e2] at this; exact this
      exact ⟨⟨o, hs _ _ hpa ho, hq⟩, r⟩
  · have : (led.map (·.1)).Pairwise (· ≠ ·) := List.pairwise_map.mpr H.apart
    rw [← hfst] at this
    exact List.pairwise_map.mp this
end
end Mine
namespace Mine

/-- a frame's names -/
structure EnvIs (env : Env) (nk : List (Str × NameKind)) : Prop where
  names : env.scope.names = nk
  kind : env.scope.kind = .function
  glob : env.globals = mainGlobals
  bi : env.builtins = builtinsNs
  nodebug : nk.lookup (Str.ofString "__debug__") = none
theorem EnvIs.of {env : Env} {nk : List (Str × NameKind)} (hE : EnvIs env nk) {x : Str} {k : NameKind} (h : nk.lookup x = some k) : env.kindOf x = some k := by
  unfold Env.kindOf; rw [hE.names]; exact h
theorem EnvIs.nd {env : Env} {nk : List (Str × NameKind)} (hE : EnvIs env nk) {x : Str} {k : NameKind} (h : nk.lookup x = some k) : (x == ("__debug__" : Str)) = false := by
  cases e : (x == ("__debug__" : Str)) with
  | false => rfl
  | true =>
    have e' := eq_of_beq e
    subst e'
    rw [show (("__debug__" : Str)) = Str.ofString "__debug__" from rfl, hE.nodebug] at h
    cases h

section
variable {G : Heap → Prop} {own : Bool} {s₀ : Shared} {env : Env} {nk : List (Str × NameKind)} {ns cns : List Str} {vs cvs : List (Option Value)} {led : Led} {s : Shared}
variable {M : Model} {A : Around} {E : Value → Shared → Prop}

theorem ldL (H : FS G own s₀ env ns vs cns cvs led s) (hE : EnvIs env nk) {x : Str} {v : Value} {Q : Value → Shared → Prop} (ha : At ns vs x v) (hk : nk.lookup x = some .local) (h : Q v s) :
    wpAny M A (loadName env x) Q E s := by
  obtain ⟨m, hm, hv⟩ := H.vars
  exact wpAny_loadName_local hE.kind (hE.of hk) hm (hv x v ha) h
theorem ldC (H : FS G own s₀ env ns vs cns cvs led s) (hE : EnvIs env nk) {x : Str} {v : Value} {Q : Value → Shared → Prop} (ha : At cns cvs x v) (hk : nk.lookup x = some .cell) (h : Q v s) :
    wpAny M A (loadName env x) Q E s := by
  obtain ⟨c, h1, h2, _⟩ := H.cells x (some v) ha.o
  exact wpAny_loadName_cell hE.kind (hE.of hk) h1 h2 h
theorem nmL (H : FS G own s₀ env ns vs cns cvs led s) (hE : EnvIs env nk) {x : Str} {pos : Pos} {v : Value} {Q : Value → Shared → Prop} (ha : At ns vs x v) (hk : nk.lookup x = some .local) (h : Q v s) :
    wpAny M A (eval (.Name x pos) env) Q E s := wpAny_Name (ldL H hE ha hk h) (hE.nd hk)
theorem nmC (H : FS G own s₀ env ns vs cns cvs led s) (hE : EnvIs env nk) {x : Str} {pos : Pos} {v : Value} {Q : Value → Shared → Prop} (ha : At cns cvs x v) (hk : nk.lookup x = some .cell) (h : Q v s) :
    wpAny M A (eval (.Name x pos) env) Q E s := wpAny_Name (ldC H hE ha hk h) (hE.nd hk)
/-- a name of the top -/
def GName (G : Heap → Prop) (x : Str) (v : Value) : Prop := ∀ h : Heap, G h → ∃ mg, h.Ns mainGlobals mg ∧ mg x = some v
def BName (G : Heap → Prop) (x : Str) (v : Value) : Prop := ∀ h : Heap, G h → ∃ mg mb, h.Ns mainGlobals mg ∧ mg x = none ∧ h.Ns builtinsNs mb ∧ mb x = some v
theorem nmG (SG : Stable G) (H : FS G own s₀ env ns vs cns cvs led s) (hE : EnvIs env nk) {x : Str} {pos : Pos} {v : Value} {Q : Value → Shared → Prop} (hk : nk.lookup x = some .globalImplicit) (hg : GName G x v) (h : Q v s) :
    wpAny M A (eval (.Name x pos) env) Q E s := by
  obtain ⟨mg, h1, h2⟩ := hg _ (H.gg SG)
  exact Calls.Name_function_global hE.kind (hE.of hk) (Calls.loadGlobal_global (by rw [hE.glob]; exact h1) h2 h) (hE.nd hk)
theorem nmB (SG : Stable G) (H : FS G own s₀ env ns vs cns cvs led s) (hE : EnvIs env nk) {x : Str} {pos : Pos} {v : Value} {Q : Value → Shared → Prop} (hk : nk.lookup x = some .globalImplicit) (hg : BName G x v) (h : Q v s) :
    wpAny M A (eval (.Name x pos) env) Q E s := by
  obtain ⟨mg, mb, h1, h2, h3, h4⟩ := hg _ (H.gg SG)
  exact Calls.Name_function_global hE.kind (hE.of hk) (Calls.loadGlobal_builtin (by rw [hE.glob]; exact h1) h2 (by rw [hE.bi]; exact h3) h4 h) (hE.nd hk)

theorem scope_plain (hE : EnvIs env nk) : (env.scope.kind == .class || (env.scope.kind == .module && env.locals != env.globals)) = false := by rw [hE.kind]; rfl

/-- a name of the frame is bound -/
theorem stL (H : FS G true s₀ env ns vs cns cvs led s) (hE : EnvIs env nk) {x : Str} {v : Value} {vs' : List (Option Value)} {Q : Unit → Shared → Prop} (hp : Put ns vs x v vs') (hk : nk.lookup x = some .local)
    (h : ∀ s', FS G true s₀ env ns vs' cns cvs led s' → Q () s') : wpAny M A (storeName env x v) Q E s := by
  obtain ⟨m, hm, hv⟩ := H.vars
  refine wpAny_storeName_local (hE.of hk) hm (fun h' hn hs => h _ ?_) (scope_plain hE)
  obtain ⟨h1, tk1, hs1⟩ := H.same
  have hL := H.fresh rfl
  refine ⟨⟨h', s.toks + 1, by rw [hs1]⟩, fun b o e => ?_, H.g, H.nd, H.cnd, ⟨_, hn, fun y u a => ?_⟩, fun y o a => ?_, H.inj, fun p hq => ?_, H.apart, H.fresh⟩
  · exact (hs.2 b (by rintro rfl; rw [hL] at e; cases e)).trans (H.keep b o e)
  · rcases hp.at H.nd a with ⟨rfl, rfl⟩ | ⟨hne, a'⟩
    · simp
    · simp only [hne, if_false]; exact hv y u a'
  · obtain ⟨c, h1, h2, h3, h4, h5⟩ := H.cells y o a
    exact ⟨c, h1, h2.sameBut hs h4, h3, h4, h5⟩
  · obtain ⟨⟨o, ho, q⟩, r⟩ := H.has p hq
    exact ⟨⟨o, (hs.2 _ r.1).trans ho, q⟩, r⟩
theorem stC (H : FS G true s₀ env ns vs cns cvs led s) (hE : EnvIs env nk) {x : Str} {v : Value} {cvs' : List (Option Value)} {Q : Unit → Shared → Prop} (hp : Put cns cvs x v cvs') (hk : nk.lookup x = some .cell)
    (h : ∀ s', FS G true s₀ env ns vs cns cvs' led s' → Q () s') : wpAny M A (storeName env x v) Q E s := by
  obtain ⟨o₀, ao⟩ := hp.o
  obtain ⟨c, h1, h2, h3, h4, h5⟩ := H.cells x o₀ ao
  refine wpAny_storeName_cell hE.kind (hE.of hk) h1 h2 fun h' hc hs => h _ ?_
  obtain ⟨hh, tk1, hs1⟩ := H.same
  have hc0 := h3 rfl
  refine ⟨⟨h', s.toks, by rw [hs1]⟩, fun b o e => ?_, H.g, H.nd, H.cnd, ?_, fun y o a => ?_, H.inj, fun p hq => ?_, H.apart, H.fresh⟩
  · exact (hs.2 b (by rintro rfl; rw [hc0] at e; cases e)).trans (H.keep b o e)
  · obtain ⟨m, hm, hv⟩ := H.vars
    exact ⟨m, hm.sameBut hs (Ne.symm h4), hv⟩
  · rcases hp.atO H.cnd a with ⟨rfl, rfl⟩ | ⟨hne, a'⟩
    · exact ⟨c, h1, hc, h3, h4, h5⟩
    · obtain ⟨c', g1, g2, g3, g4, g5⟩ := H.cells y o a'
      have hcc : c' ≠ c := by rintro rfl; exact hne (H.inj _ _ _ g1 h1)
      exact ⟨c', g1, g2.sameBut hs hcc, g3, g4, g5⟩
  · obtain ⟨⟨o, ho, q⟩, r⟩ := H.has p hq
    exact ⟨⟨o, (hs.2 _ (h5 p hq)).trans ho, q⟩, r⟩
end

section
variable {G : Heap → Prop} {own : Bool} {s₀ : Shared} {env : Env} {ns cns : List Str} {vs cvs : List (Option Value)} {led : Led} {s : Shared}
variable {prog : Program} {w : World} {A : Around} {E : Value → Shared → Prop}

/-- constants -/
theorem cInt (H : FS G own s₀ env ns vs cns cvs led s) {i : Int} {k : Nat} {pos : Pos} {Q : Value → Shared → Prop} (h : ∀ t s', FS G own s₀ env ns vs cns cvs led s' → Q (.int i t) s') :
    wpAny (model prog w) A (eval (.Constant (.int i) k pos) env) Q E s := wpAny_Constant_int (h _ _ (H.keeps (keeps_tok _ _)))
theorem cStr (H : FS G own s₀ env ns vs cns cvs led s) {x : Str} {k : Nat} {pos : Pos} {Q : Value → Shared → Prop} (h : ∀ t s', FS G own s₀ env ns vs cns cvs led s' → Q (.str x t) s') :
    wpAny (model prog w) A (eval (.Constant (.str x) k pos) env) Q E s := wpAny_Constant_str (h _ _ (H.keeps (keeps_tok _ _)))
theorem cBool {c : Bool} {k pos} {Q : Value → Shared → Prop} (h : Q (.bool c) s) : wpAny (model prog w) A (eval (.Constant (.bool c) k pos) env) Q E s := Constant_bool h
theorem cNone {k pos} {Q : Value → Shared → Prop} (h : Q .none s) : wpAny (model prog w) A (eval (.Constant .none k pos) env) Q E s := Constant_none h

/-- ints -/
theorem addI (H : FS G own s₀ env ns vs cns cvs led s) {a b : Int} {t u : Tok} {Q : Value → Shared → Prop} (h : ∀ t s', FS G own s₀ env ns vs cns cvs led s' → Q (.int (a + b) t) s') :
    wpAny (model prog w) A (binaryOp .Add (.int a t) (.int b u)) Q E s := add_int (h _ _ (H.keeps (keeps_tok _ _)))
theorem subI (H : FS G own s₀ env ns vs cns cvs led s) {a b : Int} {t u : Tok} {Q : Value → Shared → Prop} (h : ∀ t s', FS G own s₀ env ns vs cns cvs led s' → Q (.int (a - b) t) s') :
    wpAny (model prog w) A (binaryOp .Sub (.int a t) (.int b u)) Q E s := PyProof.Rows.sub_int (h _ _ (H.keeps (keeps_tok _ _)))
theorem mulI (H : FS G own s₀ env ns vs cns cvs led s) {a b : Int} {t u : Tok} {Q : Value → Shared → Prop} (hm : IntMulOk a b) (h : ∀ t s', FS G own s₀ env ns vs cns cvs led s' → Q (.int (a * b) t) s') :
    wpAny (model prog w) A (binaryOp .Mult (.int a t) (.int b u)) Q E s := PyProof.Rows.mul_int (h _ _ (H.keeps (keeps_tok _ _))) hm
theorem modI (H : FS G own s₀ env ns vs cns cvs led s) {a b : Int} {t u : Tok} {Q : Value → Shared → Prop} (hb : b ≠ 0) (h : ∀ t s', FS G own s₀ env ns vs cns cvs led s' → Q (.int (a.fmod b) t) s') :
    wpAny (model prog w) A (binaryOp .Mod (.int a t) (.int b u)) Q E s := mod_int' hb (h _ _ (H.keeps (keeps_tok _ _)))
theorem negI (H : FS G own s₀ env ns vs cns cvs led s) {a : Int} {t : Tok} {Q : Value → Shared → Prop} (h : ∀ t s', FS G own s₀ env ns vs cns cvs led s' → Q (.int (-a) t) s') :
    wpAny (model prog w) A (unaryOp .USub (.int a t)) Q E s := PyProof.Rows.neg_int (h _ _ (H.keeps (keeps_tok _ _)))
end
end Mine
namespace Mine

/-- a text by its signs -/
def S (l : List Nat) : Str := ⟨l.toArray⟩
theorem S_len (l : List Nat) : (S l).length = l.length := by simp [S, Str.length]
theorem S_inj {a b : List Nat} : S a = S b ↔ a = b := by
  constructor
  · intro h; have := congrArg Str.cps h; simpa [S] using this
  · rintro rfl; rfl
theorem S_beq (a b : List Nat) : (S a == S b) = decide (a = b) := by
  by_cases h : a = b
  · subst h; simp
  · simp [h, S_inj]

theorem slice_drop (l : List Nat) {i : Int} (h0 : 0 ≤ i) (h1 : i ≤ l.length) : Txt.slice (S l) (some i) none = S (l.drop i.toNat) := by
  rw [slice_from_eq (b := (l.length : Int)) h0 (by rw [S_len]; exact h1) (by rw [S_len])]
  have : (S l).cps.toList = l := by simp [S]
  rw [this, List.take_of_length_le (by rw [List.length_drop]; omega)]; rfl
theorem slice_take (l : List Nat) {j : Int} (h0 : 0 ≤ j) (h1 : j ≤ l.length) : Txt.slice (S l) none (some j) = S (l.take j.toNat) := by
  have h := slice_closes_to (x := S l) (j := j) ⟨h0, by simpa [S] using h1⟩
  rw [beq_iff_eq] at h
  rw [h]
  simp [S]
theorem slice_whole (l : List Nat) : Txt.slice (S l) none none = S l := by
  unfold Txt.slice
  split
  · rfl
  · rename_i h
    exfalso; apply h
    rw [PySem.StrLaws.sliceIdx_none_lo, PySem.StrLaws.sliceIdx_none_hi]
    have := PySem.StrLaws.strSliceIndices_plain (a := 0) (b := (S l).length) (len := (S l).length) (Nat.zero_le _) (Nat.le_refl _)
    simp only [Int.ofNat_zero] at this ⊢
    simp at this
    simp [this]
theorem slice_neg (l : List Nat) {j : Int} (h0 : j < 0) (h1 : -(l.length : Int) ≤ j) : Txt.slice (S l) none (some j) = S (l.take (l.length + j).toNat) := by
  have e : Txt.slice (S l) none (some j) = Txt.slice (S l) none (some (j + l.length)) := by
    unfold Txt.slice
    rw [S_len, PySem.StrLaws.sliceIdx_neg_hi none l.length h0 h1]
  rw [e, slice_take l (by omega) (by omega), Int.add_comm]

/-- a slice read -/
def sliceTree (value slice : Expr) (o l u : Value) : Sem Value := newFields "slice" [l, u, .none] >>= fun i => subscriptTail value slice o i

section
variable {M : Model} {A : Around} {E : Value → Shared → Prop} {s : Shared} {env : Env}
theorem evSlice {value : Expr} {lo hi : Option Expr} {p pos : Pos} {Q : Value → Shared → Prop}
    (h : wpAny M A (eval value env) (fun o s₁ => wpAny M A (evalPart lo env) (fun l s₂ => wpAny M A (evalPart hi env) (fun u s₃ => wpAny M A (sliceTree value (.Slice lo hi none p) o l u) Q E s₃) E s₂) E s₁) E s) :
    wpAny M A (eval (.Subscript value (.Slice lo hi none p) pos) env) Q E s := by
  refine Subscript_ (wpAny_mono h (fun o s₁ h₁ => wpAny_Slice (wpAny_mono h₁ (fun l s₂ h₂ => wpAny_mono h₂ (fun u s₃ h₃ => wpAny_evalPart_none ?_) fun _ _ x => x) fun _ _ x => x)) fun _ _ x => x)
  have h3 := h₃
  unfold sliceTree at h3
  intro Γ p' hΓ
  have := h3 Γ p' hΓ
  rw [Sem.wp_bind'] at this
  have step : ∀ (Q' : Value → Pos → Shared → Prop) (E' : Value → Pos → Shared → Prop), Sem.wp M Γ (newFields "slice" [l, u, .none]) Q' E' p' s₃ → Q' (.ref s₃.heap.objs.size) p' { s₃ with heap := s₃.heap.push { cls := .type "slice", data := .fields #[l, u, .none] } } := by
    intro Q' E' hh
    exact hh
  exact step _ _ this
end
end Mine
namespace Mine

section
variable {prog : Program} {w : World} {A : Around} {E : Value → Shared → Prop} {s : Shared}

/-- a subscript's end, whatever the base is -/
theorem subTail {value slice : Expr} {o i : Value} {T id : String} {ops : List Value} {Q : Value → Shared → Prop} (hT : s.TypeIs o T)
    (hl : typeLookup (.type T) "__getitem__" = pure (some (.builtin id))) (h : wpAny (model prog w) A (getItem o i) Q E s)
    (hs : subscripted slice false o i = operate ops (getItem o i)) :
    wpAny (model prog w) A (subscriptTail value slice o i) Q E s := by
  unfold subscriptTail
  refine wpAny_bind ?_
  rw [getitemInPython_of_ne hT.not_modules]
  refine wpAny_bind (wpAny_specialOf hT hl ?_)
  have fin : wpAny (model prog w) A (subscripted slice false o i) (fun r s₃ => wpAny (model prog w) A (letTemporaryGo value o r >>= fun _ => pure r) Q E s₃) E s := by
    rw [hs]
    exact wpAny_operating (wpAny_mono h (fun r s₃ h₃ => wpAny_bind (wpAny_letTemporaryGo (wpAny_pure h₃))) fun _ _ x => x)
  first
    | exact wpAny_pure (wpAny_bind fin)
    | exact wpAny_bind (wpAny_pure (wpAny_bind fin))
    | exact wpAny_bind fin
end

section
variable {G : Heap → Prop} {own : Bool} {s₀ : Shared} {env : Env} {ns cns : List Str} {vs cvs : List (Option Value)} {led : Led} {s : Shared}
variable {prog : Program} {w : World} {A : Around} {E : Value → Shared → Prop}

theorem keeps_push (s : Shared) (o : Obj) (n : Nat) : Keeps s { s with heap := s.heap.push o, toks := n } := keeps_of fun _ _ e => Heap.get?_push_of_some _ e
theorem fresh_size (h : Heap) : h.get? h.objs.size = none := Heap.get?_none_of_le (Nat.le_refl _)

/-- a text's slice -/
theorem slS {value : Expr} {lo hi : Option Expr} {p : Pos} {x : Str} {t : Tok} {l u : Value} {ol ou : Option Int} {y : Str} {Q : Value → Shared → Prop} (H : FS G own s₀ env ns vs cns cvs led s)
    (pl : IsPart l ol) (pu : IsPart u ou) (hsz : x.length ≤ sizeLine) (hy : Txt.slice x ol ou = y) (h : ∀ t s', FS G own s₀ env ns vs cns cvs led s' → Q (.str y t) s') :
    wpAny (model prog w) A (sliceTree value (.Slice lo hi none p) (.str x t) l u) Q E s := by
  subst hy
  unfold sliceTree
  refine wpAny_bind (wpAny_newObj_type ?_)
  have hk : PySem.KeptByPush (Keeps s) := fun s' o k hh => Keeps.trans' hh (keeps_push s' o k)
  cases pl <;> cases pu
  all_goals (refine tail_of_ItemOn (ops := [.ref s.heap.objs.size, .str x t]) ?_ rfl (fun r => by cases value <;> rfl))
  · exact SBG.sliceItem_nn hk (Keeps.refl' s) (fun s' t' k => h _ _ (H.keeps k)) hsz
  · exact SBG.sliceItem_ns hk (Keeps.refl' s) (fun s' t' k => h _ _ (H.keeps k)) hsz
  · exact SBG.sliceItem_sn hk (Keeps.refl' s) (fun s' t' k => h _ _ (H.keeps k)) hsz
  · exact SBG.sliceItem_ss hk (Keeps.refl' s) (fun s' t' k => h _ _ (H.keeps k)) hsz

/-- a list's slice -/
theorem slL {value : Expr} {lo hi : Option Expr} {p : Pos} {a : Addr} {xs ys : List Value} {l u : Value} {ol ou : Option Int} {Q : Value → Shared → Prop} (H : FS G own s₀ env ns vs cns cvs led s)
    (hl : s.heap.IsList a xs.toArray) (pl : IsPart l ol) (pu : IsPart u ou) (hsz : xs.length ≤ sizeLine) (hy : slicePick xs.toArray ol ou none = ys.toArray)
    (h : ∀ b s', FS G own s₀ env ns vs cns cvs ((b, PlO ys) :: led) s' → Q (.ref b) s') :
    wpAny (model prog w) A (sliceTree value (.Slice lo hi none p) (.ref a) l u) Q E s := by
  unfold sliceTree
  refine wpAny_bind (wpAny_newObj_type ?_)
  have k1 := keeps_push s { cls := .type "slice", data := .fields #[l, u, .none] } s.toks
  have hl1 : ({ s with heap := s.heap.push { cls := .type "slice", data := .fields #[l, u, .none] } } : Shared).heap.IsList a xs.toArray := hl.push _
  refine subTail (Heap.IsList.typeIs hl1) list_getitem_lookup (wpAny_getItem_list_slice hl1 (Heap.IsSliceOf.new ..) pl pu .none (by simp) ?_ (by simpa using hsz)) rfl
  refine h _ _ ((H.keeps k1).new (keeps_push _ _ _) (fresh_size _) ⟨_, Heap.get?_push_size _ rfl, 0, ?_⟩)
  rw [hy]

theorem idxL {value slice : Expr} {a : Addr} {xs : List Value} {k : Int} {t : Tok} {x : Value} {Q : Value → Shared → Prop} (hl : s.heap.IsList a xs.toArray) (h0 : 0 ≤ k) (h1 : k < 2 ^ 63)
    (hx : xs[k.toNat]? = some x) (hs : subscripted slice false (.ref a) (.int k t) = operate [.ref a, .int k t] (getItem (.ref a) (.int k t))) (h : Q x s) :
    wpAny (model prog w) A (subscriptTail value slice (.ref a) (.int k t)) Q E s :=
  subTail hl.typeIs list_getitem_lookup (wpAny_getItem_list hl h0 h1 (by simpa using hx) h) hs
theorem idxLneg {value slice : Expr} {a : Addr} {xs : List Value} {k : Int} {t : Tok} {x : Value} {Q : Value → Shared → Prop} (hl : s.heap.IsList a xs.toArray) (h0 : k < 0) (h1 : -(2 ^ 63) ≤ k)
    (hn : 0 ≤ k + xs.length) (hx : xs[(k + xs.length).toNat]? = some x) (hs : subscripted slice false (.ref a) (.int k t) = operate [.ref a, .int k t] (getItem (.ref a) (.int k t))) (h : Q x s) :
    wpAny (model prog w) A (subscriptTail value slice (.ref a) (.int k t)) Q E s := by
  refine subTail hl.typeIs list_getitem_lookup (wpAny_getItem_list_neg hl ?_ ?_ ?_ ?_ h) hs
  · exact h0
  · simp; omega
  · exact h1
  · simpa using hx
/-- a sign of a text -/
theorem idxS {value slice : Expr} {l : List Nat} {k : Int} {t u : Tok} {c : Nat} {j : Nat} {Q : Value → Shared → Prop} (H : FS G own s₀ env ns vs cns cvs led s) (hb : -(2 ^ 62) ≤ k ∧ k < 2 ^ 62)
    (hj : (if k < 0 then k + l.length else k) = (j : Int)) (hx : l[j]? = some c)
    (hs : subscripted slice false (.str (S l) t) (.int k u) = operate [.str (S l) t, .int k u] (getItem (.str (S l) t) (.int k u))) (h : ∀ t s', FS G own s₀ env ns vs cns cvs led s' → Q (.str (S [c]) t) s') :
    wpAny (model prog w) A (subscriptTail value slice (.str (S l) t) (.int k u)) Q E s := by
  have hlt : j < l.length := (List.getElem?_eq_some_iff.mp hx).1
  have e : Txt.item (S l) k = S [c] := by
    have e1 : seqIndex? k (S l).length = some j := by
      unfold seqIndex?
      rw [S_len]
      have h1 : (decide (0 ≤ (if k < 0 then k + (l.length : Int) else k)) && decide ((if k < 0 then k + (l.length : Int) else k) < l.length)) = true := by
        rw [hj]; simp; omega
      simp only [h1, if_true, hj]
      simp [hlt]
    unfold Txt.item Txt.charAt
    rw [e1]
    have : (S l).cps[j]? = some c := by simpa [S] using hx
    simp only [Option.bind_some, this]
    rfl
  refine item_str ?_ ?_ ?_ ?_ hs (fun r => by cases value <;> rfl)
  · unfold fitsSsize
    simp; omega
  · rw [S_len]; split at hj <;> omega
  · rw [S_len]; split at hj <;> omega
  · intro _; rw [e]; exact h _ _ (H.keeps (keeps_tok _ _))
end
end Mine
namespace Mine
section
variable {G : Heap → Prop} {own : Bool} {s₀ : Shared} {env : Env} {ns cns : List Str} {vs cvs : List (Option Value)} {led : Led} {s : Shared}
variable {prog : Program} {w : World} {A : Around} {E : Value → Shared → Prop}

theorem fdivI (H : FS G own s₀ env ns vs cns cvs led s) {a b : Int} {t u : Tok} {Q : Value → Shared → Prop} (hb : b ≠ 0) (hb' : b.natAbs < 1073741824) (h : ∀ t s', FS G own s₀ env ns vs cns cvs led s' → Q (.int (a.fdiv b) t) s') :
    wpAny (model prog w) A (binaryOp .FloorDiv (.int a t) (.int b u)) Q E s := floordiv_int hb (h _ _ (H.keeps (keeps_tok _ _))) (Or.inl (PyProof.noPylong_small hb'))

/-- a new list -/
theorem newL (H : FS G own s₀ env ns vs cns cvs led s) {xs : List Value} {Q : Value → Shared → Prop} (hsz : xs.length ≤ sizeLine) (h : ∀ b s', FS G own s₀ env ns vs cns cvs ((b, PlO xs) :: led) s' → Q (.ref b) s') :
    wpAny (model prog w) A (newList xs) Q E s := by
  refine wpAny_newObj_type ?_ (by show xs.toArray.size ≤ sizeLine; simpa using hsz)
  exact h _ _ (H.new (keeps_push _ _ _) (fresh_size _) ⟨_, Heap.get?_push_size _ rfl, 0, rfl⟩)

theorem addL (H : FS G own s₀ env ns vs cns cvs led s) {a b : Addr} {xs ys : List Value} {Q : Value → Shared → Prop} (hl : s.heap.IsList a xs.toArray) (hb : s.heap.IsList b ys.toArray) (hsz : xs.length + ys.length ≤ sizeLine)
    (h : ∀ b s', FS G own s₀ env ns vs cns cvs ((b, PlO (xs ++ ys)) :: led) s' → Q (.ref b) s') :
    wpAny (model prog w) A (binaryOp .Add (.ref a) (.ref b)) Q E s := by
  obtain ⟨⟨cls, dd, data, sl⟩, ho, hc, n, hd⟩ := id hl
  obtain ⟨⟨cls2, dd2, data2, sl2⟩, ho2, hc2, n2, hd2⟩ := id hb
  simp only at hc hd hc2 hd2
  subst hc hd hc2 hd2
  have e : xs.toArray ++ ys.toArray = (xs ++ ys).toArray := by simp
  refine concat_meets ⟨_, ho, rfl⟩ ⟨_, ho2, rfl⟩ noFill_list_add seq_list_add PySem.F.slot_list_add PySem.F.entry_list_add (PySem.F.args_list_add_2 _ _) (list_addW a b xs.toArray ys.toArray n n2 dd dd2 sl sl2 (by simpa using hsz)) ⟨ho, ho2, ?_⟩
  rw [e]
  exact h _ _ (H.new (keeps_push _ _ _) (fresh_size _) ⟨_, Heap.get?_push_size _ rfl, 0, rfl⟩)

theorem foldl_rep (xs : Array Value) : ∀ (n : Nat) (acc : Array Value), (List.foldl (fun x1 x2 => x1 ++ x2) acc (List.replicate n xs)).toList = acc.toList ++ (List.replicate n xs.toList).flatten
  | 0, acc => by simp
  | n + 1, acc => by simp [List.replicate_succ, foldl_rep xs n, List.append_assoc]

theorem mulL (H : FS G own s₀ env ns vs cns cvs led s) {a : Addr} {v : Value} {x : Int} {u : Tok} {Q : Value → Shared → Prop} (hm : (a, PlO [v]) ∈ led) (hx : -(2 ^ 62) ≤ x ∧ x ≤ 2 ^ 20)
    (h : ∀ b s', FS G own s₀ env ns vs cns cvs ((b, PlO (List.replicate x.toNat v)) :: led) s' → Q (.ref b) s') :
    wpAny (model prog w) A (binaryOp .Mult (.ref a) (.int x u)) Q E s := by
  obtain ⟨⟨o, ho, n, rfl⟩, _⟩ := H.has _ hm
  simp only at ho
  have hsz : #[v].size * x.toNat ≤ 2 ^ 24 := by simp; omega
  refine wpAny_binaryOp_repeat_ref (T := "list") (U := "int") (by decide) ⟨_, ho, rfl⟩ (fun s' => typeIs_int s' x u) noFill_list_mul PySem.F.fills_int_mul PySem.F.slot_int_rmul repeat_list PySem.F.slot_int_index.lookup
    (call_meets PySem.F.slot_int_rmul (typeIs_int s x u) PySem.F.entry_int_rmul (PySem.F.args_int_rmul_2 _ _) (int___rmul___int_list x u a [v].toArray n)
      ⟨ho, rfl, ⟨_, ho, rfl⟩, call_meets PySem.F.slot_list_mul ⟨_, ho, rfl⟩ PySem.F.entry_list_mul (PySem.F.args_list_mul_2 _ _)
        (AutoListH.list___mul___list_int_3 a [v].toArray n x u (by simp [Builtin.List.listFitsIndex]; omega) (by simp; omega) (by simp [Builtin.List.listTooLong, sizeLine]; omega))
        ⟨ho, ?_⟩⟩)
  refine h _ _ (H.new (keeps_push _ _ _) (fresh_size _) ⟨_, Heap.get?_push_size _ rfl, 0, ?_⟩)
  congr 2
  apply Array.toList_inj.mp
  rw [foldl_rep]
  simp
theorem lenL (H : FS G own s₀ env ns vs cns cvs led s) {a : Addr} {xs : List Value} {Q : Value → Shared → Prop} (hl : s.heap.IsList a xs.toArray) (hsz : xs.length ≤ sizeLine)
    (h : ∀ t s', FS G own s₀ env ns vs cns cvs led s' → Q (.int xs.length t) s') : wpAny (model prog w) A (call (.builtin "len") [.ref a]) Q E s := by
  refine len_list hl ?_ ?_
  · rw [sizeLine_eq] at hsz; simp; omega
  · simpa using h _ _ (H.keeps (keeps_tok _ _))
theorem lenS (H : FS G own s₀ env ns vs cns cvs led s) {l : List Nat} {t : Tok} {Q : Value → Shared → Prop} (hsz : l.length ≤ sizeLine) (h : ∀ t s', FS G own s₀ env ns vs cns cvs led s' → Q (.int l.length t) s') :
    wpAny (model prog w) A (call (.builtin "len") [.str (S l) t]) Q E s := by
  refine PyProof.Rows.len_str ?_ ?_
  · rw [S_len]; rw [sizeLine_eq] at hsz; omega
  · rw [S_len]; exact h _ _ (H.keeps (keeps_tok _ _))
theorem truS (H : FS G own s₀ env ns vs cns cvs led s) {l : List Nat} {t : Tok} {Q : Bool → Shared → Prop} (hsz : l.length ≤ sizeLine) (h : ∀ s', FS G own s₀ env ns vs cns cvs led s' → Q (!l.isEmpty) s') :
    wpAny (model prog w) A (truthy (.str (S l) t)) Q E s := by
  refine P.truthy_str ?_ ?_
  · rw [S_len]; rw [sizeLine_eq] at hsz; omega
  · rw [S_len]
    have e : ((l.length : Int) != 0) = !l.isEmpty := by cases l <;> simp <;> omega
    rw [e]; exact h _ (H.keeps (keeps_tok _ _))
theorem truI {a : Int} {t : Tok} {Q : Bool → Shared → Prop} (h : Q (a != 0) s) : wpAny (model prog w) A (truthy (.int a t)) Q E s := P.truthy_int h
theorem truB {b : Bool} {Q : Bool → Shared → Prop} (h : Q b s) : wpAny (model prog w) A (truthy (.bool b)) Q E s := wpAny_truthy_bool h
theorem min2 (H : FS G own s₀ env ns vs cns cvs led s) {a b : Int} {t u : Tok} {Q : Value → Shared → Prop} (hh : A.handled = none) (h : ∀ t s', FS G own s₀ env ns vs cns cvs led s' → Q (.int (min a b) t) s') :
    wpAny (model prog w) A (call (.builtin "min") [.int a t, .int b u]) Q E s := by
  refine min_two_ints hh fun h' tk k => ?_
  split
  · rw [show b = min a b by omega]; exact h _ _ (H.keeps (keeps_of k))
  · rw [show a = min a b by omega]; exact h _ _ (H.keeps (keeps_of k))
theorem max2 (H : FS G own s₀ env ns vs cns cvs led s) {a b : Int} {t u : Tok} {Q : Value → Shared → Prop} (hh : A.handled = none) (h : ∀ t s', FS G own s₀ env ns vs cns cvs led s' → Q (.int (max a b) t) s') :
    wpAny (model prog w) A (call (.builtin "max") [.int a t, .int b u]) Q E s := by
  refine max_two_ints hh fun h' tk k => ?_
  split
  · rw [show b = max a b by omega]; exact h _ _ (H.keeps (keeps_of k))
  · rw [show a = max a b by omega]; exact h _ _ (H.keeps (keeps_of k))
theorem max3 (H : FS G own s₀ env ns vs cns cvs led s) {a b c : Int} {t u x : Tok} {Q : Value → Shared → Prop} (hh : A.handled = none) (h : ∀ t s', FS G own s₀ env ns vs cns cvs led s' → Q (.int (max (max a b) c) t) s') :
    wpAny (model prog w) A (call (.builtin "max") [.int a t, .int b u, .int c x]) Q E s := by
  refine max_three_ints hh fun h' tk k => ?_
  split
  · split
    · rw [show c = max (max a b) c by omega]; exact h _ _ (H.keeps (keeps_of k))
    · rw [show b = max (max a b) c by omega]; exact h _ _ (H.keeps (keeps_of k))
  · split
    · rw [show c = max (max a b) c by omega]; exact h _ _ (H.keeps (keeps_of k))
    · rw [show a = max (max a b) c by omega]; exact h _ _ (H.keeps (keeps_of k))
theorem absI (H : FS G own s₀ env ns vs cns cvs led s) {a : Int} {t : Tok} {Q : Value → Shared → Prop} (h : ∀ t s', FS G own s₀ env ns vs cns cvs led s' → Q (.int (a.natAbs) t) s') :
    wpAny (model prog w) A (call (.builtin "abs") [.int a t]) Q E s := by
  refine call_abs_int fun u tk => ?_
  rw [show (if a < 0 then -a else a) = (a.natAbs : Int) by split <;> omega]
  exact h _ _ (H.keeps (keeps_tok _ _))
theorem isBool (H : FS G own s₀ env ns vs cns cvs led s) {a : Int} {t : Tok} {Q : Value → Shared → Prop} (h : ∀ s', FS G own s₀ env ns vs cns cvs led s' → Q (.bool false) s') :
    wpAny (model prog w) A (call (.builtin "isinstance") [.int a t, .type "bool"]) Q E s := IsiPair.int_bool (h _ (H.keeps (keeps_tok _ _)))

/-- compare -/
theorem eqS {a b : List Nat} {t u : Tok} {Q : Value → Shared → Prop} (h : Q (.bool (decide (a = b))) s) : wpAny (model prog w) A (compareOp .Eq (.str (S a) t) (.str (S b) u)) Q E s :=
  PyProof.Rows.eq_str (by rw [S_beq]; exact h)
theorem eqI {a b : Int} {t u : Tok} {Q : Value → Shared → Prop} (h : Q (.bool (decide (a = b))) s) : wpAny (model prog w) A (compareOp .Eq (.int a t) (.int b u)) Q E s :=
  PyProof.Rows.eq_int (by rw [show (a == b) = decide (a = b) from by by_cases e : a = b <;> simp [e]]; exact h)
theorem neI {a b : Int} {t u : Tok} {Q : Value → Shared → Prop} (h : Q (.bool (!decide (a = b))) s) : wpAny (model prog w) A (compareOp .NotEq (.int a t) (.int b u)) Q E s :=
  PyProof.Rows.ne_int (by rw [show (a != b) = !decide (a = b) from by by_cases e : a = b <;> simp [e]]; exact h)
theorem ltI {a b : Int} {t u : Tok} {Q : Value → Shared → Prop} (h : Q (.bool (decide (a < b))) s) : wpAny (model prog w) A (compareOp .Lt (.int a t) (.int b u)) Q E s := PyProof.Rows.lt_int h
theorem gtI {a b : Int} {t u : Tok} {Q : Value → Shared → Prop} (h : Q (.bool (decide (b < a))) s) : wpAny (model prog w) A (compareOp .Gt (.int a t) (.int b u)) Q E s := PyProof.Rows.gt_int h
theorem leI {a b : Int} {t u : Tok} {Q : Value → Shared → Prop} (h : Q (.bool (decide (a ≤ b))) s) : wpAny (model prog w) A (compareOp .LtE (.int a t) (.int b u)) Q E s := PyProof.Rows.le_int h

/-- lists changed -/
theorem setL (H : FS G true s₀ env ns vs cns cvs led s) {i : Nat} {a : Addr} {P : Obj → Prop} {xs : List Value} {k : Int} {t : Tok} {v : Value} {Q : Unit → Shared → Prop} (hi : led[i]? = some (a, P)) (hP : ∀ o, P o → LstO xs o)
    (h0 : 0 ≤ k) (h1 : k < 2 ^ 63) (hn : k < xs.length) (h : ∀ s', FS G true s₀ env ns vs cns cvs (led.set i (a, LstO (xs.set k.toNat v))) s' → Q () s') :
    wpAny (model prog w) A (setItem (.ref a) (.int k t) v) Q E s := by
  have hl : s.heap.IsList a xs.toArray := by
    obtain ⟨⟨o, ho, hq⟩, _⟩ := H.has _ (List.mem_of_getElem? hi)
    exact ⟨o, ho, (hP o hq).1, (hP o hq).2⟩
  refine wpAny_setItem_list hl h0 h1 (by simpa using hn) fun h' hl' hs => h _ (H.setAt hi (fun b o hb e => (hs.2 b hb).trans e) ?_)
  obtain ⟨o, ho, hc, n, hd⟩ := hl'
  refine ⟨o, ho, hc, n, ?_⟩
  rw [hd]; simp
theorem appL (H : FS G true s₀ env ns vs cns cvs led s) {i : Nat} {a : Addr} {xs : List Value} {v : Value} {Q : Value → Shared → Prop} (hi : led[i]? = some (a, PlO xs)) (hsz : xs.length ≤ sizeLine)
    (h : ∀ s', FS G true s₀ env ns vs cns cvs (led.set i (a, PlO (xs ++ [v]))) s' → Q .none s') :
    wpAny (model prog w) A (call (.builtin "list.append") [.ref a, v]) Q E s := by
  obtain ⟨⟨o, ho, n, rfl⟩, _⟩ := H.has _ (List.mem_of_getElem? hi)
  refine wpAny_list_append_plain (items := xs.toArray) ⟨n, ho⟩ (fun h' hl' hs => h _ (H.setAt hi (fun b o hb e => (hs.2 b hb).trans e) ?_)) (by simpa using hsz)
  obtain ⟨n', e⟩ := hl'
  exact ⟨_, e, n', by simp⟩
theorem gmAppend (H : FS G own s₀ env ns vs cns cvs led s) {a : Addr} {xs : List Value} {pl : Sem Bool} {Q : Value × List Value → Shared → Prop} (hm : (a, PlO xs) ∈ led) (h : Q (.builtin "list.append", [.ref a]) s) :
    wpAny (model prog w) A (getMethod (.ref a) (Str.ofString "append") pl) Q E s := by
  obtain ⟨⟨o, ho, n, rfl⟩, _⟩ := H.has _ hm
  exact Calls.getMethod_list_append ho rfl rfl h
theorem gmJoin {x : Str} {t : Tok} {pl : Sem Bool} {Q : Value × List Value → Shared → Prop} (h : Q (.builtin "str.join", [.str x t]) s) : wpAny (model prog w) A (getMethod (.str x t) (Str.ofString "join") pl) Q E s := GM.join h
theorem gmLower {x : Str} {t : Tok} {pl : Sem Bool} {Q : Value × List Value → Shared → Prop} (h : Q (.builtin "str.lower", [.str x t]) s) : wpAny (model prog w) A (getMethod (.str x t) (Str.ofString "lower") pl) Q E s := GM.lower h
theorem lowS (H : FS G own s₀ env ns vs cns cvs led s) {x y : Str} {t : Tok} {Q : Value → Shared → Prop} (hx : x.length ≤ 5592405) (hy : Txt.lower x = y) (h : ∀ t s', FS G own s₀ env ns vs cns cvs led s' → Q (.str y t) s') :
    wpAny (model prog w) A (call (.builtin "str.lower") [.str x t]) Q E s := by
  subst hy
  exact SCL.lower hx fun _ => h _ _ (H.keeps (keeps_tok _ _))

/-- ranges -/
theorem rng1 (H : FS G own s₀ env ns vs cns cvs led s) {n : Int} {t : Tok} {Q : Value → Shared → Prop} (h : ∀ r t u v s', FS G own s₀ env ns vs cns cvs led s' → IsRange s'.heap r 0 n 1 t u v → Q (.ref r) s') :
    wpAny (model prog w) A (call (.type "range") [.int n t]) Q E s := call_range_1 (h _ _ _ _ _ (H.keeps (keeps_push _ _ _)) (IsRange.new ..))
theorem rng2 (H : FS G own s₀ env ns vs cns cvs led s) {a b : Int} {t u : Tok} {Q : Value → Shared → Prop} (h : ∀ r t u v s', FS G own s₀ env ns vs cns cvs led s' → IsRange s'.heap r a b 1 t u v → Q (.ref r) s') :
    wpAny (model prog w) A (call (.type "range") [.int a t, .int b u]) Q E s := call_range_2 (h _ _ _ _ _ (H.keeps (keeps_push _ _ _)) (IsRange.new ..))
theorem rng3 (H : FS G own s₀ env ns vs cns cvs led s) {a b c : Int} {t u v : Tok} {Q : Value → Shared → Prop} (hc : c ≠ 0) (hc' : c.natAbs < 1073741824) (h : ∀ r t u v s', FS G own s₀ env ns vs cns cvs led s' → IsRange s'.heap r a b c t u v → Q (.ref r) s') :
    wpAny (model prog w) A (call (.type "range") [.int a t, .int b u, .int c v]) Q E s := call_range_3 hc (h _ _ _ _ _ (H.keeps (keeps_push _ _ _)) (IsRange.new ..)) (Or.inl (PyProof.noPylong_small hc'))
end
end Mine
namespace Mine
section
variable {G : Heap → Prop} {own : Bool} {s₀ : Shared} {env : Env} {nk : List (Str × NameKind)} {ns cns : List Str} {vs cvs : List (Option Value)} {led : Led} {s : Shared}
variable {prog : Program} {w : World} {A : Around} {E : Value → Shared → Prop}

theorem FS.perm (H : FS G own s₀ env ns vs cns cvs led s) {led' : Led} (hp : led.Perm led') : FS G own s₀ env ns vs cns cvs led' s :=
  { H with
    cells := fun x o a => let ⟨c, h1, h2, h3, h4, h5⟩ := H.cells x o a; ⟨c, h1, h2, h3, h4, fun p hq => h5 p (hp.mem_iff.mpr hq)⟩
    has := fun p hq => H.has p (hp.mem_iff.mpr hq)
    apart := (hp.pairwise_iff (fun h => Ne.symm h)).mp H.apart }

theorem FS.setMid {l1 l2 : Led} {a : Addr} {P P' : Obj → Prop} {h' : Heap} {n : Nat} (H : FS G own s₀ env ns vs cns cvs (l1 ++ (a, P) :: l2) s) (hs : ∀ b o, b ≠ a → s.heap.get? b = some o → h'.get? b = some o)
    (hp : ∃ o, h'.get? a = some o ∧ P' o) : FS G own s₀ env ns vs cns cvs (l1 ++ (a, P') :: l2) { s with heap := h', toks := n } := by
  have := H.setAt (i := l1.length) (a := a) (P := P) (P' := P') (n := n) (by simp) hs hp
  simpa using this

theorem FS.dropMid {l1 l2 : Led} {a : Addr} {P : Obj → Prop} {h' : Heap} {n : Nat} (H : FS G own s₀ env ns vs cns cvs (l1 ++ (a, P) :: l2) s) (hs : ∀ b o, b ≠ a → s.heap.get? b = some o → h'.get? b = some o) :
    FS G own s₀ env ns vs cns cvs (l1 ++ l2) { s with heap := h', toks := n } := by
  obtain ⟨_, haL, ha0⟩ := H.has (a, P) (by simp)
  obtain ⟨h1, tk1, hs1⟩ := H.same
  have hsub : (l1 ++ l2).Sublist (l1 ++ (a, P) :: l2) := List.Sublist.append (List.Sublist.refl _) (List.sublist_cons_self _ _)
  have hpa : ∀ p ∈ l1 ++ l2, p.1 ≠ a := by
    intro p hp
    have hap := List.pairwise_append.mp H.apart
    rcases List.mem_append.mp hp with hp | hp
    · exact hap.2.2 p hp (a, P) List.mem_cons_self
    · exact Ne.symm ((List.pairwise_cons.mp hap.2.1).1 p hp)
  refine ⟨⟨h', n, by rw [hs1]⟩, fun b o e => hs b o (by rintro rfl; simp only at ha0; rw [ha0] at e; cases e) (H.keep b o e), H.g, H.nd, H.cnd, ?_, ?_, H.inj, ?_, H.apart.sublist hsub, H.fresh⟩
  · obtain ⟨m, hm', hv⟩ := H.vars
    exact ⟨m, hm'.at' fun o e => hs _ o (Ne.symm haL) e, hv⟩
  · intro x o b
    obtain ⟨c, h1, h2, h3, h4, h5⟩ := H.cells x o b
    have hca : c ≠ a := fun e => h5 (a, P) (by simp) e.symm
    exact ⟨c, h1, (let ⟨oc, e1, e2⟩ := h2; ⟨oc, hs _ _ hca e1, e2⟩), h3, h4, fun p hp => h5 p (hsub.mem hp)⟩
  · intro p hp
    obtain ⟨⟨o, ho, hq⟩, r⟩ := H.has p (hsub.mem hp)
    exact ⟨⟨o, hs _ _ (hpa p hp) ho, hq⟩, r⟩

/-- a range's iterator -/
def RIt (x left step : Int) : Obj → Prop := fun o => o = ({ cls := .type "range_iterator", dict := none, data := .fields #[rawInt x, rawInt left, rawInt step], slots := #[] } : Obj)
/-- a list's iterator -/
def LIt (l : Addr) (i : Nat) : Obj → Prop := fun o => o.cls = .type "list_iterator" ∧ o.data = .fields #[.ref l, .int i 0]

abbrev Inv := Nat → List (Option Value) → List (Option Value) → Led → Prop

/-- a loop over a range -/
theorem forR {x : Str} {px : Pos} {body : List Stmt} {Q : Flow → Shared → Prop} {hid : Led} (hE : EnvIs env nk) (hx : nk.lookup x = some .local) (hh : A.handled = none) {r : Addr} {a b c : Int} {t u v : Tok}
    (H : FS G true s₀ env ns vs cns cvs (led ++ hid) s) (hr : IsRange s.heap r a b c t u v) (hsm : Builtin.Range.small a b c = true) (n : Nat) (hn : Builtin.Range.rangeSize a b c = n)
    (J : Inv) (h0 : J 0 vs cvs led)
    (turn : ∀ i t vs₁ cvs₁ led₁, i < n → J i vs₁ cvs₁ led₁ → ∃ vs₂, Put ns vs₁ x (.int (a + (i : Int) * c) t) vs₂ ∧ ∀ hid' s₂, FS G true s₀ env ns vs₂ cns cvs₁ (led₁ ++ hid') s₂ →
      wpAny (model prog w) A (execs body env) (fun f s₃ => match f with
        | .next => ∃ vs₃ cvs₃ led₃, J (i + 1) vs₃ cvs₃ led₃ ∧ FS G true s₀ env ns vs₃ cns cvs₃ (led₃ ++ hid') s₃
        | .ret v => Q (.ret v) s₃
        | _ => False) (fun _ _ => False) s₂)
    (hQ : ∀ vs' cvs' led' s', J n vs' cvs' led' → FS G true s₀ env ns vs' cns cvs' (led' ++ hid) s' → Q .next s') :
    wpAny (model prog w) A (pyIter (.ref r)) (fun it s₂ => codeAny (model prog w) A (.forLoop (.Name x px) it body [] env) (fun r s' => match r with | .ok f => Q f s' | .error e => cameBackBy (model prog w) A env E e s') s₂) E s := by
  refine wpAny_pyIter_range hr hsm ?_
  rw [hn]
  have W := Walks.range (prog := prog) (w := w) (A := A) hh s.heap.objs.size a c n
  have H1 := (H.new (a := s.heap.objs.size) (P := RIt a n c) (keeps_push s { cls := .type "range_iterator", data := .fields #[rawInt a, rawInt n, rawInt c] } s.toks) (fresh_size _) ⟨_, Heap.get?_push_size _ rfl, rfl⟩).perm (List.perm_middle.symm)
  generalize hI : s.heap.objs.size = I at H1 W ⊢
  refine codeAny_forLoop (fun k s' => ∃ i vs' cvs' led', i ≤ n ∧ k = n + 1 - i ∧ J i vs' cvs' led' ∧ FS G true s₀ env ns vs' cns cvs' (led' ++ (I, RIt (a + (i : Int) * c) ((n : Int) - (i : Int)) c) :: hid) s') ?_ (n + 1)
    ⟨0, vs, cvs, led, Nat.zero_le _, rfl, h0, by simpa using H1⟩
  rintro k s' ⟨i, vs', cvs', led', hi, rfl, hJ, H'⟩
  have hit : IsRangeIter s'.heap I (a + (i : Int) * c) ((n : Int) - (i : Int)) c := by
    obtain ⟨⟨o, ho, e⟩, _⟩ := H'.has (I, RIt (a + (i : Int) * c) ((n : Int) - (i : Int)) c) (by simp)
    unfold RIt at e
    rw [e] at ho; exact ho
  by_cases hlt : i < n
  · refine W.item i s' _ _ hlt hit fun v h' tk hv hst hk => ?_
    obtain ⟨t, rfl⟩ := hv
    have H2 := H'.setMid (h' := h') (n := tk) (P' := RIt (a + ((i + 1 : Nat) : Int) * c) ((n : Int) - ((i + 1 : Nat) : Int)) c) (fun b o hb e => hk b o (by simpa using hb) e) ⟨_, hst, rfl⟩
    obtain ⟨vs₂, hp, hb⟩ := turn i t vs' cvs' led' hlt hJ
    refine wpAny_assign_Name (stL H2 hE hp hx fun s₂ H3 => ?_)
    refine wpAny_mono (hb _ s₂ H3) (fun f s₃ h₃ => ?_) fun _ _ f => f.elim
    cases f with
    | next =>
      obtain ⟨vs₃, cvs₃, led₃, hJ₃, H4⟩ := h₃
      exact ⟨n + 1 - (i + 1), by omega, i + 1, vs₃, cvs₃, led₃, hlt, rfl, hJ₃, H4⟩
    | ret v => exact h₃
    | brk => exact h₃.elim
    | cont => exact h₃.elim
  · have hin : i = n := by omega
    subst hin
    refine W.done s' _ _ hit fun h' tk hk => wpAny_execs_nil ?_
    exact hQ vs' cvs' led' _ hJ (H'.dropMid fun b o hb e => hk b o (by simpa using hb) e)

/-- a loop over a list -/
theorem forLs {x : Str} {px : Pos} {body : List Stmt} {Q : Flow → Shared → Prop} {hid : Led} (hE : EnvIs env nk) (hx : nk.lookup x = some .local) (hh : A.handled = none) {l : Addr} {xs : List Value}
    (H : FS G true s₀ env ns vs cns cvs (led ++ hid) s) (hb0 : s₀.heap.IsList l xs.toArray)
    (J : Inv) (h0 : J 0 vs cvs led)
    (turn : ∀ i v vs₁ cvs₁ led₁, xs[i]? = some v → J i vs₁ cvs₁ led₁ → ∃ vs₂, Put ns vs₁ x v vs₂ ∧ ∀ hid' s₂, FS G true s₀ env ns vs₂ cns cvs₁ (led₁ ++ hid') s₂ →
      wpAny (model prog w) A (execs body env) (fun f s₃ => match f with
        | .next => ∃ vs₃ cvs₃ led₃, J (i + 1) vs₃ cvs₃ led₃ ∧ FS G true s₀ env ns vs₃ cns cvs₃ (led₃ ++ hid') s₃
        | .ret v => Q (.ret v) s₃
        | _ => False) (fun _ _ => False) s₂)
    (hQ : ∀ vs' cvs' led' s', J xs.length vs' cvs' led' → FS G true s₀ env ns vs' cns cvs' (led' ++ hid) s' → Q .next s') :
    wpAny (model prog w) A (pyIter (.ref l)) (fun it s₂ => codeAny (model prog w) A (.forLoop (.Name x px) it body [] env) (fun r s' => match r with | .ok f => Q f s' | .error e => cameBackBy (model prog w) A env E e s') s₂) E s := by
  have hl := H.base hb0
  refine wpAny_pyIter_list hl ?_
  have hne : l ≠ s.heap.objs.size := by obtain ⟨o, ho, _⟩ := hl; exact Nat.ne_of_lt (Heap.lt_size ho)
  have W := Walks.list (prog := prog) (w := w) (A := A) hh s.heap.objs.size l hne xs.toArray
  have H1 := (H.new (a := s.heap.objs.size) (P := LIt l 0) (keeps_push s { cls := .type "list_iterator", data := .fields #[.ref l, .int 0 0] } s.toks) (fresh_size _) ⟨_, Heap.get?_push_size _ rfl, rfl, rfl⟩).perm (List.perm_middle.symm)
  generalize hI : s.heap.objs.size = I at H1 W ⊢
  have hsz : xs.toArray.size = xs.length := by simp
  rw [hsz] at W
  refine codeAny_forLoop (fun k s' => ∃ i vs' cvs' led', i ≤ xs.length ∧ k = xs.length + 1 - i ∧ J i vs' cvs' led' ∧ FS G true s₀ env ns vs' cns cvs' (led' ++ (I, LIt l i) :: hid) s') ?_ (xs.length + 1)
    ⟨0, vs, cvs, led, Nat.zero_le _, rfl, h0, H1⟩
  rintro k s' ⟨i, vs', cvs', led', hi, rfl, hJ, H'⟩
  have hit : s'.heap.IsListIter I l i ∧ s'.heap.IsList l xs.toArray := by
    obtain ⟨⟨o, ho, e⟩, _⟩ := H'.has (I, LIt l i) (by simp)
    exact ⟨⟨o, ho, e.1, e.2⟩, H'.base hb0⟩
  by_cases hlt : i < xs.length
  · refine W.item i s' _ _ hlt hit fun v h' tk hv hst' hk => ?_
    have H2 := H'.setMid (h' := h') (n := tk) (P' := LIt l (i + 1)) (fun b o hb e => hk b o (by simpa using hb) e) (by obtain ⟨o, ho, h1, h2⟩ := hst'.1; exact ⟨o, ho, h1, h2⟩)
    obtain ⟨vs₂, hp, hb⟩ := turn i v vs' cvs' led' (by simpa using hv) hJ
    refine wpAny_assign_Name (stL H2 hE hp hx fun s₂ H3 => ?_)
    refine wpAny_mono (hb _ s₂ H3) (fun f s₃ h₃ => ?_) fun _ _ f => f.elim
    cases f with
    | next =>
      obtain ⟨vs₃, cvs₃, led₃, hJ₃, H4⟩ := h₃
      exact ⟨xs.length + 1 - (i + 1), by omega, i + 1, vs₃, cvs₃, led₃, hlt, rfl, hJ₃, H4⟩
    | ret v => exact h₃
    | brk => exact h₃.elim
    | cont => exact h₃.elim
  · have hin : i = xs.length := by omega
    subst hin
    refine W.done s' _ _ hit fun h' tk hk => wpAny_execs_nil ?_
    exact hQ vs' cvs' led' _ hJ (H'.dropMid fun b o hb e => hk b o (by simpa using hb) e)

/-- a while -/
theorem whileJ {test : Expr} {body : List Stmt} {pos : Pos} {Q : Flow → Shared → Prop} (H : FS G true s₀ env ns vs cns cvs led s) (J : Inv) (n : Nat) (h0 : J n vs cvs led)
    (turn : ∀ k vs₁ cvs₁ led₁ s₁, J k vs₁ cvs₁ led₁ → FS G true s₀ env ns vs₁ cns cvs₁ led₁ s₁ →
      wpAny (model prog w) A (isTrue test env (eval test env)) (fun b s₂ => if b then wpAny (model prog w) A (execs body env) (fun f s₃ => match f with
        | .next => ∃ m, m < k ∧ ∃ vs₃ cvs₃ led₃, J m vs₃ cvs₃ led₃ ∧ FS G true s₀ env ns vs₃ cns cvs₃ led₃ s₃
        | .ret v => Q (.ret v) s₃
        | _ => False) (fun _ _ => False) s₂ else Q .next s₂) (fun _ _ => False) s₁) :
    wpAny (model prog w) A (exec (.While test body [] pos) env) Q E s := by
  refine wpAny_While (codeAny_whileLoop (fun k s' => ∃ vs' cvs' led', J k vs' cvs' led' ∧ FS G true s₀ env ns vs' cns cvs' led' s') ?_ n ⟨vs, cvs, led, h0, H⟩)
  rintro k s' ⟨vs', cvs', led', hJ, H'⟩
  refine wpAny_mono (turn k vs' cvs' led' s' hJ H') (fun b s₂ h₂ => ?_) fun _ _ f => f.elim
  cases b with
  | true =>
    simp only [if_true] at h₂ ⊢
    refine wpAny_mono h₂ (fun f s₃ h₃ => ?_) fun _ _ f => f.elim
    cases f with
    | next =>
      obtain ⟨m, hm, vs₃, cvs₃, led₃, hJ₃, H4⟩ := h₃
      exact ⟨m, hm, vs₃, cvs₃, led₃, hJ₃, H4⟩
    | ret v => exact h₃
    | brk => exact h₃.elim
    | cont => exact h₃.elim
  | false =>
    simp only [Bool.false_eq_true, if_false] at h₂ ⊢
    exact wpAny_execs_nil h₂
end
end Mine
namespace Mine

/-- the names of a comprehension in a frame -/
def compNames (scope : Scope) (nk : List (Str × NameKind)) : List (Str × NameKind) :=
  scope.names.map fun (n, k) => if (k == .free && nk.lookup n == some .cell) then (n, .cell) else (n, k)

section
variable {G : Heap → Prop} {own : Bool} {s₀ : Shared} {env : Env} {nk : List (Str × NameKind)} {ns cns : List Str} {vs cvs : List (Option Value)} {led : Led} {s : Shared}
variable {prog : Program} {w : World} {A : Around} {E : Value → Shared → Prop}

theorem compEnv_is (hE : EnvIs env nk) {scope : Scope} (hk : scope.kind = .function) (cl : List (Str × Addr)) (C : Addr) (hd : (compNames scope nk).lookup (Str.ofString "__debug__") = none) :
    EnvIs (compEnvC scope cl C env) (compNames scope nk) := by
  refine ⟨?_, hk, hE.glob, hE.bi, hd⟩
  show (relabel scope env).names = compNames scope nk
  unfold relabel compNames
  simp only [hE.kind]
  refine List.map_congr_left fun x _ => ?_
  obtain ⟨n, k⟩ := x
  simp only [Env.kindOf, hE.names, beq_self_eq_true, Bool.and_true]

theorem paired_get {F : Value → Value → Prop} : ∀ {l₁ l₂ : List Value}, Paired F l₁ l₂ → ∀ (j : Nat) (v : Value), l₁[j]? = some v → ∃ y, l₂[j]? = some y ∧ F v y
  | _, _, .nil, _, _, h => by simp at h
  | _, _, .cons hf _, 0, v, h => by simp at h; subst h; exact ⟨_, rfl, hf⟩
  | _, _, .cons _ t, j + 1, v, h => by simpa using paired_get t j v (by simpa using h)

/-- what a comprehension does behind its source -/
def CompGo (prog : Program) (w : World) (A : Around) (E : Value → Shared → Prop) (env : Env) (scope : Scope) (cl : List (Str × Addr)) (x : Str) (elt : Expr) (F : Value → Value → Prop) (Q : Value → Shared → Prop) (xv : Value) (s₁ : Shared) : Prop :=
  wpAny (model prog w) A (pyIter xv) (fun it s₂ => ∃ I fp wr n P St, it = .ref I ∧ Walks prog w A I fp wr n P St ∧ n ≤ sizeLine ∧ St 0 s₂.heap ∧ (∀ b ∈ fp, b < s₂.heap.objs.size) ∧
      QuietOnC prog w A env scope cl x [] elt wr P (fun _ => true) F s₂ ∧
      (∀ D h' tk ys (vs : List Value), s₂.heap.get? D = none → h'.IsList D ys → h'.PlainList D ys → vs.length = n → (∀ j v, vs[j]? = some v → P j v) → Paired F (vs.filter fun _ => true) ys.toList →
        (∀ b o, b ∉ wr → s₂.heap.get? b = some o → h'.get? b = some o) → Q (.ref D) { s₂ with heap := h', toks := tk })) E s₁

theorem evComp {elt iter : Expr} {x : Str} {px : Pos} {scope : Scope} {cl : List (Str × Addr)} {pos : Pos} {Q : Value → Shared → Prop} (F : Value → Value → Prop)
    (hclos : closureFor scope env = pure cl) (hcell : ∀ y ∈ scope.names, y.2 ≠ .cell) (hkind : scope.kind = .function)
    (hnames : ∀ y ∈ scope.names, y.2 = .local → scope.names.lookup y.1 = some .local) (hx : scope.names.lookup x = some .local)
    (h : wpAny (model prog w) A (eval iter env) (CompGo prog w A E env scope cl x elt F Q) E s) (hs : ∀ x, foldedSetIterable iter env x = pure x := by intro _; rfl) :
    wpAny (model prog w) A (eval (.ListComp elt [⟨.Name x px, iter, [], 0⟩] scope pos) env) Q E s :=
  wpAny_ListComp_free (fun _ => true) F hclos hcell hkind hnames hx h hs

/-- the frame of a comprehension's element -/
theorem compFS (SG : Stable G) {scope : Scope} {cl : List (Str × Addr)} {C : Addr} {x : Str} {v : Value} {m₃ : Str → Option Value} {s₁ s₃ : Shared} {ccns : List Str} {ccvs : List (Option Value)}
    (hg : G s₁.heap) (hk : ∀ b o, s₁.heap.get? b = some o → s₃.heap.get? b = some o) (hC : s₁.heap.get? C = none) (hn : s₃.heap.Ns C m₃) (hm : m₃ x = some v)
    (hcnd : ccns.Nodup) (hcells : ∀ y o, AtO ccns ccvs y o → ∃ c, cl.lookup y = some c ∧ s₁.heap.IsCell c o) (hinj : ∀ x y c, cl.lookup x = some c → cl.lookup y = some c → x = y) :
    FS G false s₃ (compEnvC scope cl C env) [x] [some v] ccns ccvs [] s₃ := by
  refine ⟨⟨s₃.heap, s₃.toks, rfl⟩, fun _ _ e => e, SG.up _ _ hg hk, by simp, hcnd, ⟨m₃, hn, fun y u a => ?_⟩, fun y o a => ?_, hinj, fun p hp => (nomatch hp), List.Pairwise.nil, fun e => (nomatch e)⟩
  · cases a with
    | head => exact hm
    | tail a => cases a
  · obtain ⟨c, h1, h2⟩ := hcells y o a
    refine ⟨c, h1, h2.keeps hk, fun e => (nomatch e), ?_, fun p hp => (nomatch hp)⟩
    rintro rfl
    obtain ⟨o, ho, _⟩ := h2
    have : s₁.heap.get? c = none := hC
    rw [this] at ho; cases ho

theorem walks_bounded {prog : Program} {w : World} {A : Around} {I : Addr} {fp wr : List Addr} {n : Nat} {P : Nat → Value → Prop} {Si : Nat → Heap → Prop} (W : Walks prog w A I fp wr n P Si) :
    Walks prog w A I fp wr n (fun i v => i < n ∧ P i v) Si where
  sub := W.sub
  frame := W.frame
  item := fun i s Q E hi st hQ => W.item i s Q E hi st fun v h' tk hP => hQ v h' tk ⟨hi, hP⟩
  done := W.done
  self := W.self

theorem compGoR (SG : Stable G) (hh : A.handled = none) {scope : Scope} {cl : List (Str × Addr)} {x : Str} {elt : Expr} {F : Value → Value → Prop} {Q : Value → Shared → Prop} {r : Addr} {a b c : Int} {t u v : Tok}
    (H : FS G own s₀ env ns vs cns cvs led s) (hr : IsRange s.heap r a b c t u v) (hsm : Builtin.Range.small a b c = true) (n : Nat) (hn : Builtin.Range.rangeSize a b c = n) (hsz : n ≤ sizeLine)
    (ccns : List Str) (ccvs : List (Option Value)) (hcnd : ccns.Nodup) (hcells : ∀ y o, AtO ccns ccvs y o → ∃ c, cl.lookup y = some c ∧ s.heap.IsCell c o) (hinj : ∀ x y c, cl.lookup x = some c → cl.lookup y = some c → x = y)
    (helt : ∀ C (i : Nat) t s₃ E', i < n → (∀ b o, s.heap.get? b = some o → s₃.heap.get? b = some o) → FS G false s₃ (compEnvC scope cl C env) [x] [some (.int (a + (i : Int) * c) t)] ccns ccvs [] s₃ →
      wpAny (model prog w) A (eval elt (compEnvC scope cl C env)) (fun y s₄ => F (.int (a + (i : Int) * c) t) y ∧ Keeps s₃ s₄) E' s₃)
    (hQ : ∀ D ys s', FS G own s₀ env ns vs cns cvs ((D, PlO ys) :: led) s' → ys.length = n → (∀ j : Nat, j < n → ∃ t y, ys[j]? = some y ∧ F (.int (a + (j : Int) * c) t) y) → Q (.ref D) s') :
    CompGo prog w A E env scope cl x elt F Q (.ref r) s := by
  unfold CompGo
  refine wpAny_pyIter_range hr hsm ?_
  rw [hn]
  have W := walks_bounded (Walks.range (prog := prog) (w := w) (A := A) hh s.heap.objs.size a c n)
  have k1 := keeps_push s { cls := .type "range_iterator", data := .fields #[rawInt a, rawInt n, rawInt c] } s.toks
  have hIs : s.heap.get? s.heap.objs.size = none := fresh_size _
  have notw : ∀ b o, s.heap.get? b = some o → b ∉ [s.heap.objs.size] := fun b o e hb => by
    rw [List.mem_singleton] at hb; subst hb; rw [hIs] at e; cases e
  refine ⟨_, _, _, n, _, _, rfl, W, hsz, ?_, ?_, ⟨?_, ?_⟩, ?_⟩
  · have := Heap.get?_push_size s.heap (o := { cls := .type "range_iterator", data := .fields #[rawInt a, rawInt n, rawInt c] }) rfl
    simpa [IsRangeIter] using this
  · intro b hb; rw [List.mem_singleton] at hb; subst hb; rw [Heap.size_push]; exact Nat.lt_succ_self _
  · intro C i v s₃ m₃ E' _ _ _ _ _ _
    exact wpAny_pure ⟨rfl, Keeps.refl' _⟩
  · intro C i v s₃ m₃ E' hC hP _ hn₃ hm hk _
    obtain ⟨hlt, t, rfl⟩ := hP
    have hks : ∀ b o, s.heap.get? b = some o → s₃.heap.get? b = some o := fun b o e => hk b o (notw b o e) (Heap.get?_push_of_some _ e)
    refine helt C i t s₃ E' hlt hks (compFS SG (H.gg SG) hks ?_ hn₃ hm hcnd hcells hinj)
    exact Heap.get?_none_of_le (by rw [Heap.size_push] at hC; omega)
  · intro D h' tk ys vs' hD _ hpl hlen hP hF hk
    have hks : Keeps s { s with heap := h', toks := tk } := keeps_of fun b o e => hk b o (notw b o e) (Heap.get?_push_of_some _ e)
    have hD' : s.heap.get? D = none := by
      cases e : s.heap.get? D with
      | none => rfl
      | some o => rw [Heap.get?_push_of_some _ e] at hD; cases hD
    refine hQ D ys.toList _ (H.new hks hD' ?_) ?_ ?_
    · obtain ⟨n', e⟩ := hpl
      exact ⟨_, e, n', by simp⟩
    · have := hF.length
      rw [List.filter_eq_self.mpr (fun _ _ => rfl)] at this
      rw [← this]; exact hlen
    · intro j hj
      have hj' : j < vs'.length := by omega
      have hv : vs'[j]? = some vs'[j] := List.getElem?_eq_getElem hj'
      obtain ⟨_, t, e⟩ := hP j _ hv
      have hf : vs'.filter (fun _ => true) = vs' := List.filter_eq_self.mpr (fun _ _ => rfl)
      rw [hf] at hF
      obtain ⟨y, h1, h2⟩ := paired_get hF j _ hv
      exact ⟨t, y, h1, e ▸ h2⟩
theorem compGoL (SG : Stable G) (hh : A.handled = none) {scope : Scope} {cl : List (Str × Addr)} {x : Str} {elt : Expr} {F : Value → Value → Prop} {Q : Value → Shared → Prop} {l : Addr} {xs : List Value}
    (H : FS G own s₀ env ns vs cns cvs led s) (hl : s.heap.IsList l xs.toArray) (hsz : xs.length ≤ sizeLine)
    (ccns : List Str) (ccvs : List (Option Value)) (hcnd : ccns.Nodup) (hcells : ∀ y o, AtO ccns ccvs y o → ∃ c, cl.lookup y = some c ∧ s.heap.IsCell c o) (hinj : ∀ x y c, cl.lookup x = some c → cl.lookup y = some c → x = y)
    (helt : ∀ C (i : Nat) v s₃ E', xs[i]? = some v → (∀ b o, s.heap.get? b = some o → s₃.heap.get? b = some o) → FS G false s₃ (compEnvC scope cl C env) [x] [some v] ccns ccvs [] s₃ →
      wpAny (model prog w) A (eval elt (compEnvC scope cl C env)) (fun y s₄ => F v y ∧ Keeps s₃ s₄) E' s₃)
    (hQ : ∀ D ys s', FS G own s₀ env ns vs cns cvs ((D, PlO ys) :: led) s' → Paired F xs ys → Q (.ref D) s') :
    CompGo prog w A E env scope cl x elt F Q (.ref l) s := by
  unfold CompGo
  refine wpAny_pyIter_list hl ?_
  have hIs : s.heap.get? s.heap.objs.size = none := fresh_size _
  have hlt : l < s.heap.objs.size := by obtain ⟨o, ho, _⟩ := hl; exact Heap.lt_size ho
  have W := Walks.list (prog := prog) (w := w) (A := A) hh s.heap.objs.size l (Nat.ne_of_lt hlt) xs.toArray
  have notw : ∀ b o, s.heap.get? b = some o → b ∉ [s.heap.objs.size] := fun b o e hb => by
    rw [List.mem_singleton] at hb; subst hb; rw [hIs] at e; cases e
  refine ⟨_, _, _, xs.toArray.size, _, _, rfl, W, by simpa using hsz, ⟨⟨_, Heap.get?_push_size _ rfl, rfl, rfl⟩, hl.push _⟩, ?_, ⟨?_, ?_⟩, ?_⟩
  · intro b hb
    rw [Heap.size_push]
    rcases List.mem_cons.mp hb with rfl | hb
    · exact Nat.lt_succ_self _
    · rw [List.mem_singleton] at hb; subst hb; exact Nat.lt_succ_of_lt hlt
  · intro C i v s₃ m₃ E' _ _ _ _ _ _
    exact wpAny_pure ⟨rfl, Keeps.refl' _⟩
  · intro C i v s₃ m₃ E' hC hP _ hn₃ hm hk _
    have hks : ∀ b o, s.heap.get? b = some o → s₃.heap.get? b = some o := fun b o e => hk b o (notw b o e) (Heap.get?_push_of_some _ e)
    refine helt C i v s₃ E' (by simpa using hP) hks (compFS SG (H.gg SG) hks ?_ hn₃ hm hcnd hcells hinj)
    exact Heap.get?_none_of_le (by rw [Heap.size_push] at hC; omega)
  · intro D h' tk ys vs' hD _ hpl hlen hP hF hk
    have hks : Keeps s { s with heap := h', toks := tk } := keeps_of fun b o e => hk b o (notw b o e) (Heap.get?_push_of_some _ e)
    have hD' : s.heap.get? D = none := by
      cases e : s.heap.get? D with
      | none => rfl
      | some o => rw [Heap.get?_push_of_some _ e] at hD; cases hD
    refine hQ D ys.toList _ (H.new hks hD' ?_) ?_
    · obtain ⟨n', e⟩ := hpl
      exact ⟨_, e, n', by simp⟩
    · rw [List.filter_eq_self.mpr (fun _ _ => rfl)] at hF
      have e : vs' = xs := by
        apply List.ext_getElem?
        intro j
        by_cases hj : j < vs'.length
        · have hv : vs'[j]? = some vs'[j] := List.getElem?_eq_getElem hj
          rw [hv]
          have := hP j _ hv
          simpa using this.symm
        · rw [List.getElem?_eq_none (by omega), List.getElem?_eq_none (by simp at hlen; omega)]
      exact e ▸ hF

theorem glued_S : ∀ (l : List (List Nat)), (Builtin.Str.glued (S []) (l.map S)) = S l.flatten := by
  have key : ∀ (l : List (List Nat)) (acc : Array Nat), (l.map S).foldl (fun acc p => acc ++ (S []).cps ++ p.cps) acc = acc ++ l.flatten.toArray := by
    intro l
    induction l with
    | nil => intro acc; simp
    | cons x r ih =>
      intro acc
      rw [List.map_cons, List.foldl_cons, ih]
      apply Array.toList_inj.mp
      simp [S]
  intro l
  unfold Builtin.Str.glued
  cases l with
  | nil => rfl
  | cons x r =>
    simp only [List.map_cons, List.drop_succ_cons, List.drop_zero, List.headD_cons]
    rw [key]
    simp [S]

/-- texts put together -/
theorem joinS (H : FS G own s₀ env ns vs cns cvs led s) {a : Addr} {l : List (List Nat × Tok)} {t : Tok} {Q : Value → Shared → Prop} (hl : s.heap.IsList a (l.map fun p => Value.str (S p.1) p.2).toArray)
    (hsz : ((l.map (·.1)).map List.length).sum ≤ sizeLine) (h : ∀ t s', FS G own s₀ env ns vs cns cvs led s' → Q (.str (S (l.map (·.1)).flatten) t) s') :
    wpAny (model prog w) A (call (.builtin "str.join") [.str (S []) t, .ref a]) Q E s := by
  have hl' : s.heap.IsList a (strValues (l.map fun p => (S p.1, p.2))).toArray := by
    simpa [strValues, Function.comp_def] using hl
  have e1 : ((l.map fun p => (S p.1, p.2)).map (·.1)) = (l.map (·.1)).map S := by simp [Function.comp_def]
  refine call_meets PySem.F.slot_str_join (typeIs_str _ _ _) PySem.F.entry_str_join (PySem.F.args_str_join_2 _ _) (meets_str_join_list (S []) t a (l.map fun p => (S p.1, p.2)) ?_) ⟨hl', ?_⟩
  · rw [e1]
    have key : ∀ (k : List (List Nat)) (n : Nat), (k.map S).toArray.foldl (fun x1 x2 => x1 + x2.length + (S []).length) n = n + (k.map List.length).sum := by
      intro k
      induction k with
      | nil => intro n; simp
      | cons x r ih =>
        intro n
        have := ih (n + (S x).length + (S []).length)
        simp only [List.foldl_toArray] at this ⊢
        rw [List.map_cons, List.foldl_cons, this, S_len, S_len, List.map_cons, List.sum_cons]
        simp; omega
    rw [key]
    unfold Builtin.Str.tooLong
    simpa using hsz
  · match l, hsz, h, hl' with
    | [], _, h, _ => 
      refine ⟨by rw [sizeLine_eq]; decide, ?_⟩
      have := h s.toks { s with toks := s.toks + 1 } (H.keeps (keeps_tok _ _))
      exact this
    | [p], _, h, _ =>
      have := h p.2 s H
      simp at this
      exact this
    | p :: q :: r, hsz, h, _ =>
      have e2 := glued_S ((p :: q :: r).map (·.1))
      show (Made.str (Builtin.Str.glued (S []) (((p :: q :: r).map fun p => (S p.1, p.2)).map (·.1)))).post _ s
      rw [show (((p :: q :: r).map fun p => (S p.1, p.2)).map (·.1)) = ((p :: q :: r).map (·.1)).map S by simp [Function.comp_def], e2]
      refine ⟨?_, ?_⟩
      · rw [S_len, List.length_flatten]; exact hsz
      · exact h s.toks { s with toks := s.toks + 1 } (H.keeps (keeps_tok _ _))
theorem listRange (H : FS G own s₀ env ns vs cns cvs led s) (hh : A.handled = none) {r : Addr} {a b c : Int} {t u v : Tok} {Q : Value → Shared → Prop} (hr : IsRange s.heap r a b c t u v) (hsm : Builtin.Range.small a b c = true) (n : Nat) (hn : Builtin.Range.rangeSize a b c = n) (hsz : n ≤ 2 ^ 24)
    (h : ∀ D ys s', FS G own s₀ env ns vs cns cvs ((D, PlO ys) :: led) s' → ys.length = n → (∀ (j : Nat), j < n → ∃ t, ys[j]? = some (.int (a + (j : Int) * c) t)) → Q (.ref D) s') :
    wpAny (model prog w) A (call (.type "list") [.ref r]) Q E s := by
  refine call_list_range hh hr hsm hn hsz fun h' tk acc c' hk ho hi => ?_
  refine h _ acc.toList _ (H.new (keeps_of hk) (fresh_size _) ⟨_, ho, c', by simp⟩) (by simpa using hi.1) fun j hj => ?_
  have hj' : j < acc.size := by rw [hi.1]; exact hj
  obtain ⟨t, e⟩ := hi.2 j acc[j] (by simp [hj'])
  exact ⟨t, by simp [hj', e]⟩
end
end Mine
namespace Mine
section
variable {G : Heap → Prop} {own : Bool} {s₀ : Shared} {env : Env} {nk : List (Str × NameKind)} {ns cns : List Str} {vs cvs : List (Option Value)} {led : Led} {s : Shared}
variable {prog : Program} {w : World} {A : Around} {E : Value → Shared → Prop}

/-- room for so many frames more -/
structure Room (A : Around) (d : Nat) : Prop where
  depth : A.depth + d < recursionLimit
  units : A.units + 8 * d + 100 < cLine
  handled : A.handled = none
theorem Room.deeper {A : Around} {d : Nat} (h : Room A (d + 1)) (env : Env) : Room (A.deeper env) d := by
  refine ⟨?_, ?_, h.handled⟩
  · have := h.depth; show A.depth + 1 + d < _; omega
  · have := h.units; show A.units + 3 + 8 * d + 100 < _; omega
theorem Room.less {A : Around} {d d' : Nat} (h : Room A d) (hd : d' ≤ d) : Room A d' := ⟨by have := h.depth; omega, by have := h.units; omega, h.handled⟩

/-- a call of a def -/
theorem enter {a : Addr} {o : Obj} {fd : FuncData} {body : List Stmt} {args : Args} {binds : List (Str × Value)} {R : Result → Shared → Prop}
    (ns : List Str) (vs : List (Option Value)) (cns : List Str) (cvs : List (Option Value)) {d : Nat} (hA : Room A d)
    (ho : s.heap.get? a = some o) (hdata : o.data = .func fd) (hg : G s.heap) (hlim : s.heap.NoLimit) (hcd : s.heap.CodeRec fd.code fd.qualname) (hbody : fd.body = .stmts body)
    (hbind : ∀ (Q' : List (Str × Value) → Shared → Prop) (E' : Value → Shared → Prop), Q' binds s → wpAny (model prog w) A.in1 (bindArgs fd args) Q' E' s)
    (hkind : ∀ x ∈ binds, fd.scope.names.lookup x.1 = some .local ∨ (fd.scope.names.lookup x.1 = some .cell ∧ ((cellsFrom (s.heap.objs.size + 1) fd.scope.names []).lookup x.1).isSome = true))
    (hv : ∀ x v, At ns vs x v → bindL (fun x => fd.scope.names.lookup x) binds (fun _ => none) x = some v)
    (hcv : ∀ x o, AtO cns cvs x o → ∃ c, (cellsFrom (s.heap.objs.size + 1) fd.scope.names []).lookup x = some c ∧ bindC (fun x => fd.scope.names.lookup x) binds (fun _ => none) x = o)
    (hnd : ns.Nodup) (hcnd : cns.Nodup) (hdbg : fd.scope.names.lookup (Str.ofString "__debug__") = none)
    (h : ∀ env s₁, EnvIs env fd.scope.names → FS G true s env ns vs cns cvs [] s₁ →
      wpAny (model prog w) (A.deeper env) (execs body env) (fun f s' => R (.ok (.ret (match f with | .ret v => v | _ => .none))) s') (fun _ _ => False) s₁)
    (hco : fd.scope.isCoroutine = false := by rfl) (hgen : fd.scope.isGenerator = false := by rfl) (hk : fd.scope.kind = .function := by rfl) (hclo : fd.closure = [] := by rfl)
    (hgl : fd.globals = mainGlobals := by rfl) (hbi : fd.builtins = builtinsNs := by rfl) :
    codeAny (model prog w) A (.call (.ref a) args) R s := by
  have hd := hA.depth
  refine codeAny_call_function (by omega) ho hdata hco hgen hbody hcd (hbind _ _ ?_)
  rw [hclo]
  refine wpAny_newFunctionEnv_cells hk hkind fun env he s' x => ⟨hlim.keeps x.toInCall.keep, ?_⟩
  have hloc : env.locals = s.heap.objs.size := by rw [he]; rfl
  have hcells : env.cells = cellsFrom (s.heap.objs.size + 1) fd.scope.names [] := by rw [he]; rfl
  have hkof : env.kindOf = (fun x => fd.scope.names.lookup x) := by rw [he]; rfl
  refine codeAny_func (wpAny_mono (h env s' ⟨by rw [he]; rfl, by rw [he]; exact hk, by rw [he]; exact hgl, by rw [he]; exact hbi, hdbg⟩ ?_) (fun _ _ q => q) fun _ _ f => f.elim)
  have hL0 : s.heap.get? env.locals = none := Heap.get?_none_of_le (by rw [hloc]; exact Nat.le_refl _)
  refine ⟨x.toInCall.same, x.toInCall.keep, hg, hnd, hcnd, ⟨_, x.toInCall.ns, fun y v a => by rw [hkof]; exact hv y v a⟩, fun y o a => ?_, fun y z c h1 h2 => ?_, fun p hp => (nomatch hp), List.Pairwise.nil, fun _ => hL0⟩
  · obtain ⟨c, h1, h2⟩ := hcv y o a
    rw [← hcells] at h1
    have hab := x.above y c (mem_of_lookup h1)
    refine ⟨c, h1, ?_, fun _ => Heap.get?_none_of_le ?_, Nat.ne_of_gt hab, fun p hp => (nomatch hp)⟩
    · have := x.cell y c h1
      rw [hkof, h2] at this; exact this
    · rw [hloc] at hab; exact Nat.le_of_lt hab
  · exact name_of_addr x.apart (mem_of_lookup h1) (mem_of_lookup h2)

theorem bindL_local {kindOf : Str → Option NameKind} : ∀ (binds : List (Str × Value)) (m : Str → Option Value), (∀ x ∈ binds, kindOf x.1 = some .local) → (binds.map (·.1)).Nodup →
    ∀ x v, ((x, v) ∈ binds → bindL kindOf binds m x = some v) ∧ (x ∉ binds.map (·.1) → bindL kindOf binds m x = m x)
  | [], m, _, _, x, v => ⟨fun h => (nomatch h), fun _ => rfl⟩
  | (n, u) :: r, m, hk, hnd, x, v => by
    have ih := bindL_local r (fun y => if y = n then some u else m y) (fun y hy => hk y (List.mem_cons_of_mem _ hy)) (List.nodup_cons.mp hnd).2 x v
    have e : bindL kindOf ((n, u) :: r) m = bindL kindOf r (fun y => if y = n then some u else m y) := by
      rw [bindL, if_pos (hk (n, u) List.mem_cons_self)]
    rw [e]
    refine ⟨fun h => ?_, fun h => ?_⟩
    · rcases List.mem_cons.mp h with h | h
      · cases h
        rw [ih.2 (List.nodup_cons.mp hnd).1]
        simp
      · exact ih.1 h
    · simp only [List.map_cons, List.mem_cons, not_or] at h
      rw [ih.2 h.2, if_neg h.1]
theorem bindC_local {kindOf : Str → Option NameKind} : ∀ (binds : List (Str × Value)) (m : Str → Option Value), (∀ x ∈ binds, kindOf x.1 = some .local) → bindC kindOf binds m = m
  | [], _, _ => rfl
  | (n, u) :: r, m, hk => by
    rw [bindC, if_pos (hk (n, u) List.mem_cons_self)]
    exact bindC_local r m fun y hy => hk y (List.mem_cons_of_mem _ hy)
theorem at_params : ∀ (ps : List Str) (vals : List Value) (rest : List Str), ps.length = vals.length → ∀ {x : Str} {v : Value}, At (ps ++ rest) (vals.map some ++ rest.map fun _ => none) x v → (x, v) ∈ ps.zip vals
  | [], [], rest, _, x, v, a => by
    exfalso
    simp only [List.nil_append, List.map_nil] at a
    induction rest with
    | nil => cases a
    | cons y r ih => cases a with | tail a => exact ih a
  | p :: ps, u :: us, rest, hl, x, v, a => by
    simp only [List.cons_append, List.map_cons] at a
    cases a with
    | head => exact List.mem_cons_self
    | tail a => exact List.mem_cons_of_mem _ (at_params ps us rest (by simpa using hl) a)
theorem atO_nones : ∀ (cns : List Str) {x : Str} {o : Option Value}, AtO cns (cns.map fun _ => none) x o → o = none
  | _ :: r, _, _, .head => rfl
  | _ :: r, _, _, .tail a => atO_nones r a
theorem lookup_of_mem_map : ∀ {l : List (Str × Addr)} {x : Str}, x ∈ l.map (·.1) → ∃ c, l.lookup x = some c
  | (n, c) :: r, x, h => by
    rw [List.lookup_cons]
    cases e : x == n with
    | true => exact ⟨c, rfl⟩
    | false =>
      rcases List.mem_cons.mp h with h | h
      · exfalso; simp only at h; subst h; simp at e
      · exact lookup_of_mem_map h

/-- a call of a def whose parameters are plain names of its frame -/
theorem enterP {a : Addr} {o : Obj} {fd : FuncData} {body : List Stmt} {args : Args} {R : Result → Shared → Prop}
    (ps : List Str) (vals : List Value) (rest : List Str) (cns : List Str) {ns : List Str} {vs cvs : List (Option Value)} {d : Nat} (hA : Room A d)
    (ho : s.heap.get? a = some o) (hdata : o.data = .func fd) (hg : G s.heap) (hlim : s.heap.NoLimit) (hcd : s.heap.CodeRec fd.code fd.qualname) (hbody : fd.body = .stmts body)
    (hbind : ∀ (Q' : List (Str × Value) → Shared → Prop) (E' : Value → Shared → Prop), Q' (ps.zip vals) s → wpAny (model prog w) A.in1 (bindArgs fd args) Q' E' s)
    (hloc : (ps.all fun x => decide (fd.scope.names.lookup x = some .local)) = true) (hlen : ps.length = vals.length) (hnd : decide ((ps ++ rest).Nodup) = true) (hcnd : decide cns.Nodup = true)
    (hc : (cns.all fun x => ((cellsFrom 0 fd.scope.names []).map (·.1)).contains x) = true)
    (hdbg : fd.scope.names.lookup (Str.ofString "__debug__") = none)
    (h : ∀ env s₁, EnvIs env fd.scope.names → FS G true s env ns vs cns cvs [] s₁ →
      wpAny (model prog w) (A.deeper env) (execs body env) (fun f s' => R (.ok (.ret (match f with | .ret v => v | _ => .none))) s') (fun _ _ => False) s₁)
    (hns : ns = ps ++ rest := by rfl) (hvs : vs = vals.map some ++ rest.map fun _ => none := by rfl) (hcvs : cvs = cns.map fun _ => none := by rfl)
    (hco : fd.scope.isCoroutine = false := by rfl) (hgen : fd.scope.isGenerator = false := by rfl) (hk : fd.scope.kind = .function := by rfl) (hclo : fd.closure = [] := by rfl)
    (hgl : fd.globals = mainGlobals := by rfl) (hbi : fd.builtins = builtinsNs := by rfl) :
    codeAny (model prog w) A (.call (.ref a) args) R s := by
  subst hns hvs hcvs
  have hnd' := of_decide_eq_true hnd
  have hl : ∀ x ∈ ps.zip vals, fd.scope.names.lookup x.1 = some .local := fun x hx => of_decide_eq_true (List.all_eq_true.mp hloc x.1 (List.of_mem_zip hx).1)
  have hz : (ps.zip vals).map (·.1) = ps := by rw [List.map_fst_zip]; omega
  refine enter (ps ++ rest) _ cns _ hA ho hdata hg hlim hcd hbody hbind (fun x hx => .inl (hl x hx)) (fun x v a => ?_) (fun x o a => ?_) hnd' (of_decide_eq_true hcnd) hdbg h hco hgen hk hclo hgl hbi
  · exact (bindL_local (ps.zip vals) (fun _ => none) hl (by rw [hz]; exact (List.nodup_append.mp hnd').1) x v).1 (at_params ps vals rest hlen a)
  · have e := atO_nones cns a
    subst e
    have hm := List.all_eq_true.mp hc x a.mem
    rw [List.contains_iff_mem] at hm
    rw [cellsFrom_names fd.scope.names 0 (s.heap.objs.size + 1) [] [] rfl] at hm
    obtain ⟨c, hc'⟩ := lookup_of_mem_map hm
    exact ⟨c, hc', by rw [bindC_local _ _ hl]⟩

/-- what a def hands back -/
def RetQ (Q : Value → Shared → Prop) (f : Flow) (s' : Shared) : Prop := match f with | .ret v => Q v s' | _ => Q .none s'
theorem callP {a : Addr} {o : Obj} {fd : FuncData} {body : List Stmt} {Q : Value → Shared → Prop} {pos : List Value} {kw : List (Str × Value)}
    (ps : List Str) (vals : List Value) (rest : List Str) (cns : List Str) (ns : List Str) (vs cvs : List (Option Value)) (nk : List (Str × NameKind)) {d : Nat} (hA : Room A (d + 1))
    (ho : s.heap.get? a = some o) (hdata : o.data = .func fd) (hg : G s.heap) (hlim : s.heap.NoLimit) (hcd : s.heap.CodeRec fd.code fd.qualname) (hbody : fd.body = .stmts body) (hnk : fd.scope.names = nk)
    (hbind : ∀ (Q' : List (Str × Value) → Shared → Prop) (E' : Value → Shared → Prop), Q' (ps.zip vals) s → wpAny (model prog w) A.in1 (bindArgs fd ⟨pos, kw⟩) Q' E' s)
    (hloc : (ps.all fun x => decide (nk.lookup x = some .local)) = true) (hlen : ps.length = vals.length) (hnd : decide (ns.Nodup) = true) (hcnd : decide cns.Nodup = true)
    (hc : (cns.all fun x => ((cellsFrom 0 nk []).map (·.1)).contains x) = true)
    (hdbg : nk.lookup (Str.ofString "__debug__") = none)
    (h : ∀ env s₁, EnvIs env nk → Room (A.deeper env) d → FS G true s env ns vs cns cvs [] s₁ → wpAny (model prog w) (A.deeper env) (execs body env) (RetQ Q) (fun _ _ => False) s₁)
    (hns : ns = ps ++ rest := by rfl) (hvs : vs = vals.map some ++ rest.map fun _ => none := by rfl) (hcvs : cvs = cns.map fun _ => none := by rfl)
    (hco : fd.scope.isCoroutine = false := by rfl) (hgen : fd.scope.isGenerator = false := by rfl) (hk : fd.scope.kind = .function := by rfl) (hclo : fd.closure = [] := by rfl)
    (hgl : fd.globals = mainGlobals := by rfl) (hbi : fd.builtins = builtinsNs := by rfl) :
    wpAny (model prog w) A (call (.ref a) pos kw) Q E s := by
  subst hnk
  refine wpAny_call ?_
  refine enterP ps vals rest cns hA ho hdata hg hlim hcd hbody hbind hloc hlen (by rw [← hns]; exact hnd) hcnd hc hdbg (fun env s₁ hE H => ?_) hns hvs hcvs hco hgen hk hclo hgl hbi
  refine wpAny_mono (h env s₁ hE (hA.deeper env) H) (fun f s' q => ?_) fun _ _ f => f.elim
  cases f <;> exact q
theorem iteD {p : Prop} [Decidable p] {P R : Prop} (h1 : p → P) (h2 : ¬ p → R) : if decide p = true then P else R := by
  by_cases h : p
  · rw [if_pos (decide_eq_true h)]; exact h1 h
  · rw [if_neg (by simpa using h)]; exact h2 h
theorem iteB {b : Bool} {P R : Prop} (h1 : b = true → P) (h2 : b = false → R) : if b = true then P else R := by
  cases b with
  | true => exact h1 rfl
  | false => exact h2 rfl

/-- what comes behind a statement -/
def SeqQ (M : Model) (A : Around) (E : Value → Shared → Prop) (rest : List Stmt) (env : Env) (Q : Flow → Shared → Prop) (f : Flow) (s' : Shared) : Prop :=
  match f with | .next => wpAny M A (execs rest env) Q E s' | f => Q f s'
theorem exCons {M : Model} {st : Stmt} {rest : List Stmt} {Q : Flow → Shared → Prop} (h : wpAny M A (exec st env) (SeqQ M A E rest env Q) E s) : wpAny M A (execs (st :: rest) env) Q E s :=
  wpAny_execs_cons (wpAny_mono h (fun f s' q => by cases f <;> exact q) fun _ _ x => x)
theorem exNil {M : Model} {Q : Flow → Shared → Prop} (h : Q .next s) : wpAny M A (execs [] env) Q E s := wpAny_execs_nil h
theorem seqNext {M : Model} {rest : List Stmt} {Q : Flow → Shared → Prop} (h : wpAny M A (execs rest env) Q E s) : SeqQ M A E rest env Q .next s := h
theorem seqRet {M : Model} {rest : List Stmt} {Q : Flow → Shared → Prop} {v : Value} (h : Q (.ret v) s) : SeqQ M A E rest env Q (.ret v) s := h
theorem retRet {Q : Value → Shared → Prop} {v : Value} (h : Q v s) : RetQ Q (.ret v) s := h
theorem exAssign {M : Model} {x : Str} {pos' pos : Pos} {value : Expr} {Q : Flow → Shared → Prop} (h : wpAny M A (eval value env) (fun v s₁ => wpAny M A (storeName env x v) (fun _ => Q .next) E s₁) E s)
    (hs : swapsWith value (some (.Name x pos')) pos.line env = pure false := by rfl) : wpAny M A (exec (.Assign [.Name x pos'] value pos) env) Q E s := wpAny_Assign_Name h hs
theorem mCall {M : Model} {o : Expr} {name : Str} {apos pos : Pos} {args : List Expr} {pl : Sem Bool} {Q : Value → Shared → Prop} (h : wpAny M A (eval o env) (fun ov s₁ => wpAny M A (getMethod ov name pl) (fun fx s₂ => wpAny M A (callWith pos fx.1 fx.2 (backTo pos (starEach args env)) []) Q E s₂) E s₁) E s)
    (he : eval (.Call (.Attribute o name apos) args [] pos) env = (do
      let ov ← eval o env
      standAt apos.atName
      let (f, first) ← holding [ov] (getMethod ov name pl)
      callWith pos f first (backTo pos (starEach args env)) []) := by rfl) :
    wpAny M A (eval (.Call (.Attribute o name apos) args [] pos) env) Q E s := MethodCall_ h he

/-- a def of the top, called -/
def FnAt (G : Heap → Prop) (a : Addr) : Prop := ∃ o fd, (∀ h : Heap, G h → h.get? a = some o) ∧ o.data = .func fd
theorem cwF {pos : Pos} {a : Addr} {e : Expr} {rest : List Expr} {Q : Value → Shared → Prop} (_H : FS G own s₀ env ns vs cns cvs led s) (hf : FnAt G a)
    (h : wpAny (model prog w) A (spliced (backTo pos (starEach (e :: rest) env))) (fun vs s₁ => G s₁.heap ∧ wpAny (model prog w) A (call (.ref a) vs) Q E s₁) E s)
    (he : starEach (e :: rest) env = (false, eval e env) :: starEach rest env := by rfl) :
    wpAny (model prog w) A (callWith pos (.ref a) [] (backTo pos (starEach (e :: rest) env)) []) Q E s := by
  obtain ⟨o, fd, ho, hd⟩ := hf
  exact callWith_def (o := o) (fd := fd) hd (wpAny_mono h (fun vs s₁ h₁ => ⟨ho _ h₁.1, h₁.2⟩) fun _ _ x => x) he
theorem cwB {pos : Pos} {id : String} {e : Expr} {rest : List Expr} {Q : Value → Shared → Prop}
    (h : wpAny (model prog w) A (spliced (backTo pos (starEach (e :: rest) env))) (fun vs s₁ => wpAny (model prog w) A (call (.builtin id) vs) Q E s₁) E s)
    (he : starEach (e :: rest) env = (false, eval e env) :: starEach rest env := by rfl) (hplain : (backTo pos (starEach rest env)).any (·.1) = false := by rfl) :
    wpAny (model prog w) A (callWith pos (.builtin id) [] (backTo pos (starEach (e :: rest) env)) []) Q E s := callWith_builtin1 h he hplain
theorem cwT {pos : Pos} {T : String} {e : Expr} {rest : List Expr} {Q : Value → Shared → Prop}
    (h : wpAny (model prog w) A (spliced (backTo pos (starEach (e :: rest) env))) (fun vs s₁ => wpAny (model prog w) A (call (.type T) vs) Q E s₁) E s)
    (he : starEach (e :: rest) env = (false, eval e env) :: starEach rest env := by rfl) (hplain : (backTo pos (starEach rest env)).any (·.1) = false := by rfl) :
    wpAny (model prog w) A (callWith pos (.type T) [] (backTo pos (starEach (e :: rest) env)) []) Q E s := callWith_type1 h he hplain
end

/-- the signs of the law's texts -/
def Sg (x : Nat) : Prop := x = 97 ∨ x = 65 ∨ x = 107 ∨ x = 75 ∨ x = 123 ∨ x = 91
def low (x : Nat) : Nat := if x = 65 then 97 else if x = 75 then 107 else x
theorem lower_sg {x : Nat} (h : Sg x) : Txt.lower (S [x]) = S [low x] := by
  rcases h with rfl | rfl | rfl | rfl | rfl | rfl <;> decide +kernel
def subc (x y : Nat) : Int := if x = y then 0 else if low x = low y then 1 else 2

theorem lowC {G : Heap → Prop} {own : Bool} {s₀ : Shared} {env : Env} {ns cns : List Str} {vs cvs : List (Option Value)} {led : Led} {s : Shared} {prog : Program} {w : World} {A : Around} {E : Value → Shared → Prop}
    (H : FS G own s₀ env ns vs cns cvs led s) {x : Nat} {t : Tok} {Q : Value → Shared → Prop} (hx : Sg x) (h : ∀ t s', FS G own s₀ env ns vs cns cvs led s' → Q (.str (S [low x]) t) s') :
    wpAny (model prog w) A (call (.builtin "str.lower") [.str (S [x]) t]) Q E s := lowS H (by rw [S_len]; simp) (lower_sg hx) h

section
variable {G : Heap → Prop} {own : Bool} {s₀ : Shared} {env : Env} {nk : List (Str × NameKind)} {ns cns : List Str} {vs cvs : List (Option Value)} {led : Led} {s : Shared}
variable {prog : Program} {w : World} {A : Around} {E : Value → Shared → Prop}
theorem size_1000 {n : Nat} (h : n ≤ 1000) : n ≤ sizeLine := by rw [sizeLine_eq]; omega
/-- a text from a place on -/
theorem slFrom {value : Expr} {lo hi : Option Expr} {p : Pos} {l : List Nat} {t u : Tok} {i : Int} {Q : Value → Shared → Prop} (H : FS G own s₀ env ns vs cns cvs led s) (h0 : 0 ≤ i) (h1 : i ≤ l.length) (hsz : l.length ≤ 1000)
    (h : ∀ t s', FS G own s₀ env ns vs cns cvs led s' → Q (.str (S (l.drop i.toNat)) t) s') :
    wpAny (model prog w) A (sliceTree value (.Slice lo hi none p) (.str (S l) t) (.int i u) .none) Q E s :=
  slS H (.int i u) .none (by rw [S_len]; exact size_1000 hsz) (slice_drop l h0 h1) h
/-- a text up to a place -/
theorem slTo {value : Expr} {lo hi : Option Expr} {p : Pos} {l : List Nat} {t u : Tok} {i : Int} {Q : Value → Shared → Prop} (H : FS G own s₀ env ns vs cns cvs led s) (h0 : 0 ≤ i) (h1 : i ≤ l.length) (hsz : l.length ≤ 1000)
    (h : ∀ t s', FS G own s₀ env ns vs cns cvs led s' → Q (.str (S (l.take i.toNat)) t) s') :
    wpAny (model prog w) A (sliceTree value (.Slice lo hi none p) (.str (S l) t) .none (.int i u)) Q E s :=
  slS H .none (.int i u) (by rw [S_len]; exact size_1000 hsz) (slice_take l h0 h1) h
/-- «x or None» -/
def OrPart (k : Int) (v : Value) : Prop := (k = 0 ∧ v = .none) ∨ (k ≠ 0 ∧ ∃ t, v = .int k t)
theorem orNone {k : Int} {x : Str} {p1 p2 p3 : Pos} {c : Nat} {t : Tok} {Q : Value → Shared → Prop} (H : FS G own s₀ env ns vs cns cvs led s) (hE : EnvIs env nk) (ha : At ns vs x (.int k t)) (hk : nk.lookup x = some .local)
    (h : ∀ v, OrPart k v → Q v s) : wpAny (model prog w) A (eval (.BoolOp .Or [.Name x p1, .Constant .none c p2] p3) env) Q E s := by
  refine BoolOp_or (nmL H hE ha hk (truI ?_))
  refine iteB (fun e => h _ (.inr ⟨by simpa using e, t, rfl⟩)) (fun e => BoolOp_one (cNone (h _ (.inl ⟨by simpa using e, rfl⟩))))
/-- a text but for its last signs -/
theorem slOr {value : Expr} {lo hi : Option Expr} {p : Pos} {l : List Nat} {t : Tok} {k : Int} {v : Value} {Q : Value → Shared → Prop} (H : FS G own s₀ env ns vs cns cvs led s) (hv : OrPart k v) (h0 : k ≤ 0) (h1 : -(l.length : Int) ≤ k) (hsz : l.length ≤ 1000)
    (h : ∀ t s', FS G own s₀ env ns vs cns cvs led s' → Q (.str (S (l.take (l.length + k).toNat)) t) s') :
    wpAny (model prog w) A (sliceTree value (.Slice lo hi none p) (.str (S l) t) .none v) Q E s := by
  rcases hv with ⟨rfl, rfl⟩ | ⟨hk, u, rfl⟩
  · refine slS H .none .none (by rw [S_len]; exact size_1000 hsz) (slice_whole l) fun t s' H' => ?_
    have := h t s' H'
    rw [show (((l.length : Int) + 0).toNat) = l.length by omega, List.take_length] at this
    exact this
  · exact slS H .none (.int k u) (by rw [S_len]; exact size_1000 hsz) (slice_neg l (by omega) h1) h
theorem lenS' (H : FS G own s₀ env ns vs cns cvs led s) {l : List Nat} {t : Tok} {Q : Value → Shared → Prop} (hsz : l.length ≤ 1000) (h : ∀ t s', FS G own s₀ env ns vs cns cvs led s' → Q (.int l.length t) s') :
    wpAny (model prog w) A (call (.builtin "len") [.str (S l) t]) Q E s := lenS H (size_1000 hsz) h
theorem lenL' (H : FS G own s₀ env ns vs cns cvs led s) {a : Addr} {xs : List Value} {Q : Value → Shared → Prop} (hl : s.heap.IsList a xs.toArray) (hsz : xs.length ≤ 1000)
    (h : ∀ t s', FS G own s₀ env ns vs cns cvs led s' → Q (.int xs.length t) s') : wpAny (model prog w) A (call (.builtin "len") [.ref a]) Q E s := lenL H hl (size_1000 hsz) h
theorem truS' (H : FS G own s₀ env ns vs cns cvs led s) {l : List Nat} {t : Tok} {Q : Bool → Shared → Prop} (hsz : l.length ≤ 1000) (h : ∀ s', FS G own s₀ env ns vs cns cvs led s' → Q (!l.isEmpty) s') :
    wpAny (model prog w) A (truthy (.str (S l) t)) Q E s := truS H (size_1000 hsz) h
theorem mulI' (H : FS G own s₀ env ns vs cns cvs led s) {a b : Int} {t u : Tok} {Q : Value → Shared → Prop} (hb : -(2 ^ 32) < b ∧ b < 2 ^ 32 ∨ -(2 ^ 32) < a ∧ a < 2 ^ 32) (h : ∀ t s', FS G own s₀ env ns vs cns cvs led s' → Q (.int (a * b) t) s') :
    wpAny (model prog w) A (binaryOp .Mult (.int a t) (.int b u)) Q E s :=
  mulI H (hb.elim (fun hb => IntMulOk.of_right (intBits_le_64 (by omega) (by omega))) (fun ha => IntMulOk.of_left (intBits_le_64 (by omega) (by omega)))) h
theorem endI {Q : Value → Shared → Prop} {r v : Int} {t : Tok} {s' : Shared} (h : ∀ t s', Keeps s s' → Q (.int r t) s') (H : FS G own s env ns vs cns cvs led s') (e : v = r) : Q (.int v t) s' := e ▸ h _ _ H.kept
theorem iaddI (H : FS G own s₀ env ns vs cns cvs led s) {a b : Int} {t u : Tok} {Q : Value → Shared → Prop} (h : ∀ t s', FS G own s₀ env ns vs cns cvs led s' → Q (.int (a + b) t) s') :
    wpAny (model prog w) A (inplaceOp .Add (.int a t) (.int b u)) Q E s := P.iadd_int (h _ _ (H.keeps (keeps_tok _ _)))
theorem isubI (H : FS G own s₀ env ns vs cns cvs led s) {a b : Int} {t u : Tok} {Q : Value → Shared → Prop} (h : ∀ t s', FS G own s₀ env ns vs cns cvs led s' → Q (.int (a - b) t) s') :
    wpAny (model prog w) A (inplaceOp .Sub (.int a t) (.int b u)) Q E s := P.isub_int (h _ _ (H.keeps (keeps_tok _ _)))
end
end Mine
namespace Mine
section
variable {G : Heap → Prop} {own : Bool} {s₀ : Shared} {env : Env} {nk : List (Str × NameKind)} {ns cns : List Str} {vs cvs : List (Option Value)} {led : Led} {s : Shared}
variable {prog : Program} {w : World} {A : Around} {E : Value → Shared → Prop}
theorem iteT {P R : Prop} (h : P) : if true = true then P else R := h
theorem iteF {P R : Prop} (h : R) : if false = true then P else R := h

theorem slFromN {value : Expr} {lo hi : Option Expr} {p : Pos} {l : List Nat} {t u : Tok} {i : Nat} {Q : Value → Shared → Prop} (H : FS G own s₀ env ns vs cns cvs led s) (h1 : i ≤ l.length) (hsz : l.length ≤ 1000)
    (h : ∀ t s', FS G own s₀ env ns vs cns cvs led s' → Q (.str (S (l.drop i)) t) s') :
    wpAny (model prog w) A (sliceTree value (.Slice lo hi none p) (.str (S l) t) (.int (i : Int) u) .none) Q E s := slFrom H (by omega) (by omega) hsz h
theorem slToN {value : Expr} {lo hi : Option Expr} {p : Pos} {l : List Nat} {t u : Tok} {i : Nat} {Q : Value → Shared → Prop} (H : FS G own s₀ env ns vs cns cvs led s) (h1 : i ≤ l.length) (hsz : l.length ≤ 1000)
    (h : ∀ t s', FS G own s₀ env ns vs cns cvs led s' → Q (.str (S (l.take i)) t) s') :
    wpAny (model prog w) A (sliceTree value (.Slice lo hi none p) (.str (S l) t) .none (.int (i : Int) u)) Q E s := slTo H (by omega) (by omega) hsz h
theorem slOrN {value : Expr} {lo hi : Option Expr} {p : Pos} {l : List Nat} {t : Tok} {q : Nat} {v : Value} {Q : Value → Shared → Prop} (H : FS G own s₀ env ns vs cns cvs led s) (hv : OrPart (-(q : Int)) v) (h1 : q ≤ l.length) (hsz : l.length ≤ 1000)
    (h : ∀ t s', FS G own s₀ env ns vs cns cvs led s' → Q (.str (S (l.take (l.length - q))) t) s') :
    wpAny (model prog w) A (sliceTree value (.Slice lo hi none p) (.str (S l) t) .none v) Q E s :=
  slOr H hv (by omega) (by omega) hsz fun t s' H' => by
    have := h t s' H'
    rw [show ((l.length : Int) + -(q : Int)).toNat = l.length - q by omega]
    exact this
abbrev Pre := List (Option Value) → List (Option Value) → Led → Prop
/-- the end of a turn of a while -/
def TurnQ (G : Heap → Prop) (s₀ : Shared) (env : Env) (ns cns : List Str) (J : Inv) (k : Nat) (Q : Flow → Shared → Prop) (f : Flow) (s₃ : Shared) : Prop :=
  match f with
  | .next => ∃ m, m < k ∧ ∃ vs₃ cvs₃ led₃, J m vs₃ cvs₃ led₃ ∧ FS G true s₀ env ns vs₃ cns cvs₃ led₃ s₃
  | .ret v => Q (.ret v) s₃
  | _ => False
theorem turnNext {J : Inv} {k : Nat} {Q : Flow → Shared → Prop} (m : Nat) {vs₃ cvs₃ : List (Option Value)} {led₃ : Led} (H : FS G true s₀ env ns vs₃ cns cvs₃ led₃ s) (hm : m < k) (hJ : J m vs₃ cvs₃ led₃) : TurnQ G s₀ env ns cns J k Q .next s :=
  ⟨m, hm, vs₃, cvs₃, led₃, hJ, H⟩
theorem turnRet {J : Inv} {k : Nat} {Q : Flow → Shared → Prop} {v : Value} (h : Q (.ret v) s) : TurnQ G s₀ env ns cns J k Q (.ret v) s := h
/-- a state that is told -/
def Told (G : Heap → Prop) (s₀ : Shared) (env : Env) (ns cns : List Str) (X : Pre) (s₃ : Shared) : Prop := ∃ vs₃ cvs₃ led₃, X vs₃ cvs₃ led₃ ∧ FS G true s₀ env ns vs₃ cns cvs₃ led₃ s₃
theorem told {X : Pre} (H : FS G true s₀ env ns vs cns cvs led s) (h : X vs cvs led) : Told G s₀ env ns cns X s := ⟨_, _, _, h, H⟩
/-- a while, its end told -/
theorem whileX {test : Expr} {body : List Stmt} {pos : Pos} {Q : Flow → Shared → Prop} (H : FS G true s₀ env ns vs cns cvs led s) (J : Inv) (X : Pre) (n : Nat) (h0 : J n vs cvs led)
    (turn : ∀ k vs₁ cvs₁ led₁ s₁, J k vs₁ cvs₁ led₁ → FS G true s₀ env ns vs₁ cns cvs₁ led₁ s₁ →
      wpAny (model prog w) A (isTrue test env (eval test env)) (fun b s₂ => if b then wpAny (model prog w) A (execs body env) (TurnQ G s₀ env ns cns J k Q) (fun _ _ => False) s₂ else Told G s₀ env ns cns X s₂) (fun _ _ => False) s₁)
    (hQ : ∀ vs' cvs' led' s', X vs' cvs' led' → FS G true s₀ env ns vs' cns cvs' led' s' → Q .next s') :
    wpAny (model prog w) A (exec (.While test body [] pos) env) Q E s := by
  refine whileJ H J n h0 fun k vs₁ cvs₁ led₁ s₁ hJ H₁ => wpAny_mono (turn k vs₁ cvs₁ led₁ s₁ hJ H₁) (fun b s₂ h₂ => ?_) fun _ _ f => f
  cases b with
  | true =>
    simp only [if_true] at h₂ ⊢
    refine wpAny_mono h₂ (fun f s₃ h₃ => ?_) fun _ _ f => f
    cases f <;> exact h₃
  | false =>
    simp only [Bool.false_eq_true, if_false] at h₂ ⊢
    obtain ⟨vs₃, cvs₃, led₃, hX, H₃⟩ := h₂
    exact hQ _ _ _ _ hX H₃
/-- a statement, its end told -/
def CutQ (G : Heap → Prop) (s₀ : Shared) (env : Env) (ns cns : List Str) (X : Pre) (Q : Flow → Shared → Prop) (f : Flow) (s₃ : Shared) : Prop :=
  match f with | .next => Told G s₀ env ns cns X s₃ | f => Q f s₃
theorem exCut {st : Stmt} {rest : List Stmt} {Q : Flow → Shared → Prop} (_H : FS G true s₀ env ns vs cns cvs led s) (X : Pre) (h1 : wpAny (model prog w) A (exec st env) (CutQ G s₀ env ns cns X Q) E s)
    (h2 : ∀ vs' cvs' led' s', X vs' cvs' led' → FS G true s₀ env ns vs' cns cvs' led' s' → wpAny (model prog w) A (execs rest env) Q E s') :
    wpAny (model prog w) A (execs (st :: rest) env) Q E s := by
  refine exCons (wpAny_mono h1 (fun f s' q => ?_) fun _ _ x => x)
  cases f with
  | next => obtain ⟨vs₃, cvs₃, led₃, hX, H₃⟩ := q; exact h2 _ _ _ _ hX H₃
  | ret v => exact q
  | brk => exact q
  | cont => exact q
theorem cutNext {X : Pre} {Q : Flow → Shared → Prop} (H : FS G true s₀ env ns vs cns cvs led s) (h : X vs cvs led) : CutQ G s₀ env ns cns X Q .next s := ⟨_, _, _, h, H⟩
theorem cutRet {X : Pre} {Q : Flow → Shared → Prop} {v : Value} (h : Q (.ret v) s) : CutQ G s₀ env ns cns X Q (.ret v) s := h
/-- the end of a turn of a for -/
def ForQ (G : Heap → Prop) (s₀ : Shared) (env : Env) (ns cns : List Str) (J : Inv) (i : Nat) (hid : Led) (Q : Flow → Shared → Prop) (f : Flow) (s₃ : Shared) : Prop :=
  match f with
  | .next => ∃ vs₃ cvs₃ led₃, J i vs₃ cvs₃ led₃ ∧ FS G true s₀ env ns vs₃ cns cvs₃ (led₃ ++ hid) s₃
  | .ret v => Q (.ret v) s₃
  | _ => False
theorem forNext {J : Inv} {i : Nat} {hid : Led} {Q : Flow → Shared → Prop} {vs₃ cvs₃ : List (Option Value)} (led₃ : Led) (H : FS G true s₀ env ns vs₃ cns cvs₃ (led₃ ++ hid) s) (hJ : J i vs₃ cvs₃ led₃) : ForQ G s₀ env ns cns J i hid Q .next s :=
  ⟨vs₃, cvs₃, led₃, hJ, H⟩
theorem forRet {J : Inv} {i : Nat} {hid : Led} {Q : Flow → Shared → Prop} {v : Value} (h : Q (.ret v) s) : ForQ G s₀ env ns cns J i hid Q (.ret v) s := h
theorem forX {x : Str} {px : Pos} {body : List Stmt} {Q : Flow → Shared → Prop} (hid : Led) {d : Nat} (hE : EnvIs env nk) (hR : Room A d) {r : Addr} {a b c : Int} {t u v : Tok}
    (H : FS G true s₀ env ns vs cns cvs (led ++ hid) s) (hr : IsRange s.heap r a b c t u v) (n : Nat) (hsm : Builtin.Range.small a b c = true) (hn : Builtin.Range.rangeSize a b c = n)
    (J : Inv) (h0 : J 0 vs cvs led) (hx : nk.lookup x = some .local)
    (turn : ∀ i t vs₁ cvs₁ led₁, i < n → J i vs₁ cvs₁ led₁ → ∃ vs₂, Put ns vs₁ x (.int (a + (i : Int) * c) t) vs₂ ∧ ∀ hid' s₂, FS G true s₀ env ns vs₂ cns cvs₁ (led₁ ++ hid') s₂ →
      wpAny (model prog w) A (execs body env) (ForQ G s₀ env ns cns J (i + 1) hid' Q) (fun _ _ => False) s₂)
    (hQ : ∀ vs' cvs' led' s', J n vs' cvs' led' → FS G true s₀ env ns vs' cns cvs' (led' ++ hid) s' → Q .next s') :
    wpAny (model prog w) A (pyIter (.ref r)) (fun it s₂ => codeAny (model prog w) A (.forLoop (.Name x px) it body [] env) (fun r s' => match r with | .ok f => Q f s' | .error e => cameBackBy (model prog w) A env E e s') s₂) E s := by
  refine forR hE hx hR.handled H hr hsm n hn J h0 (fun i t vs₁ cvs₁ led₁ hi hJ => ?_) hQ
  obtain ⟨vs₂, hp, hb⟩ := turn i t vs₁ cvs₁ led₁ hi hJ
  refine ⟨vs₂, hp, fun hid' s₂ H₂ => wpAny_mono (hb hid' s₂ H₂) (fun f s₃ h₃ => ?_) fun _ _ f => f⟩
  cases f <;> exact h₃
theorem small_n {n : Nat} (h : n ≤ 1000) : Builtin.Range.small 0 n 1 = true ∧ Builtin.Range.rangeSize 0 n 1 = n := by
  refine ⟨small_one (by decide) (by decide) (by omega) (by omega), ?_⟩
  rw [rangeSize_one]; split <;> omega
theorem small_ab {a b : Int} (ha : -1000 ≤ a ∧ a ≤ 1000) (hb : -1000 ≤ b ∧ b ≤ 1000) : Builtin.Range.small a b 1 = true ∧ Builtin.Range.rangeSize a b 1 = ((b - a).toNat : Nat) := by
  refine ⟨small_one (by omega) (by omega) (by omega) (by omega), ?_⟩
  rw [rangeSize_one]; split <;> omega

/-- the ints of a list -/
theorem ints_get : ∀ {xs : List Value} {ms : List Int}, IntsAre xs ms → ∀ {i : Nat} {m : Int}, ms[i]? = some m → ∃ t, xs[i]? = some (.int m t)
  | _, _, .nil, _, _, h => by simp at h
  | _, _, .cons n t _, 0, m, h => by simp at h; subst h; exact ⟨t, rfl⟩
  | _, _, .cons n t r, i + 1, m, h => by simpa using ints_get r (by simpa using h)
theorem ints_set : ∀ {xs : List Value} {ms : List Int}, IntsAre xs ms → ∀ (i : Nat) (m : Int) (t : Tok), IntsAre (xs.set i (.int m t)) (ms.set i m)
  | _, _, .nil, _, _, _ => .nil
  | _, _, .cons n t r, 0, m, t' => .cons m t' r
  | _, _, .cons n t r, i + 1, m, t' => .cons n t (ints_set r i m t')
theorem ints_of_get : ∀ (xs : List Value) (ms : List Int), xs.length = ms.length → (∀ (i : Nat) (m : Int), ms[i]? = some m → ∃ t, xs[i]? = some (.int m t)) → IntsAre xs ms
  | [], [], _, _ => .nil
  | x :: xs, m :: ms, hl, h => by
    obtain ⟨t, e⟩ := h 0 m rfl
    simp at e
    subst e
    exact .cons m t (ints_of_get xs ms (by simpa using hl) fun i k hk => by simpa using h (i + 1) k (by simpa using hk))
theorem swapped_is (hE : EnvIs env nk) {x y : Str} {p1 p2 p3 q1 q2 q3 : Pos} {k1 k2 : Nat} (hx : nk.lookup x = some .local) (hy : nk.lookup y = some .local) (hxy : x ≠ y) (hp : p2.line = p1.line) :
    swappedStores [.Tuple [.Name x p1, .Name y p2] k1 p3] (.Tuple [.Name y q1, .Name x q2] k2 q3) env = pure (some [x, y]) := by
  have e1 := hE.of hx
  have e2 := hE.of hy
  have hd1 := hE.nd hx
  have hd2 := hE.nd hy
  have hb : env.blockKind = .function := by unfold Env.blockKind; rw [hE.kind]; rfl
  have hyx : y ≠ x := fun e => hxy e.symm
  have hl1 : (Expr.Name x p1).pos.line = p1.line := rfl
  have ed : [x, y].eraseDups.length = 2 := by
    have : (y == x) = false := beq_eq_false_iff_ne.mpr hyx
    simp [List.eraseDups_cons, this]
  unfold swappedStores
  simp only [pure_bind, List.length_cons, List.length_nil, Nat.zero_add, Nat.reduceAdd, beq_self_eq_true, Bool.true_or, Bool.not_true, bne_self_eq_false, Bool.or_self, hb, Bool.false_eq_true, if_false, List.any_cons, List.any_nil, Bool.or_false, Bool.false_or, List.head?_cons, Option.map_some, Option.getD_some, List.filterMap_cons, List.filterMap_nil, e1, e2, hl1, hp, Bool.and_self, if_true, ed, List.all_cons, List.all_nil, Bool.and_true]
  simp [foldedForSure, constantsAlone, hd1, hd2]
theorem swap2 (H : FS G true s₀ env ns vs cns cvs led s) (hE : EnvIs env nk) (hh : A.handled = none) {x y : Str} {v1 v2 : Value} {p1 p2 p3 q1 q2 q3 pos : Pos} {k1 k2 : Nat} {Q : Flow → Shared → Prop} {vs1 vs2 : List (Option Value)}
    (ax : At ns vs x v1) (ay : At ns vs y v2) (pu1 : Put ns vs y v1 vs1) (pu2 : Put ns vs1 x v2 vs2) (hx : nk.lookup x = some .local) (hy : nk.lookup y = some .local) (hxy : x ≠ y) (hp : p2.line = p1.line)
    (h : ∀ s', FS G true s₀ env ns vs2 cns cvs led s' → Q .next s') :
    wpAny (model prog w) A (exec (.Assign [.Tuple [.Name x p1, .Name y p2] k1 p3] (.Tuple [.Name y q1, .Name x q2] k2 q3) pos) env) Q E s := by
  refine Assign_Tuple_swapped (names := [x, y]) ?_ (by rfl) (swapped_is hE hx hy hxy hp)
  refine Tuple_ (spliced_more (nmL H hE ay hy (spliced_more (nmL H hE ax hx (spliced_none ?_)))))
  refine wpAny_newObj_type ?_
  have H1 := H.keeps (keeps_push s { cls := .type "tuple", data := .seq [v2, v1].toArray } s.toks)
  refine unpackItems_tuple (items := [v2, v1].toArray) hh ⟨_, Heap.get?_push_size _ rfl, rfl, _, rfl⟩ fun h' he => ?_
  have H2 : FS G true s₀ env ns vs cns cvs led { s with heap := h' } := H1.keeps (s' := { s with heap := h' }) ⟨h', s.toks, rfl, fun b o e => he b o (Nat.ne_of_lt (Heap.lt_size e)) e⟩
  show wpAny (model prog w) A (assignInOrder [bindName env y, bindName env x] [v1, v2]) _ _ _
  unfold assignInOrder
  refine wpAny_bind (wpAny_holding (wpAny_bindName (stL H2 hE pu1 hy fun s2 H3 => ?_)))
  unfold assignInOrder
  refine wpAny_bind (wpAny_holding (wpAny_bindName (stL H3 hE pu2 hx fun s3 H4 => ?_)))
  unfold assignInOrder
  exact wpAny_pure (h _ H4)
theorem FS.lstQ (H : FS G own s₀ env ns vs cns cvs led s) {a : Addr} {P : Obj → Prop} {xs : List Value} (hm : (a, P) ∈ led) (hP : ∀ o, P o → LstO xs o) : s.heap.IsList a xs.toArray := by
  obtain ⟨⟨o, ho, hq⟩, _⟩ := H.has _ hm
  exact ⟨o, ho, (hP o hq).1, (hP o hq).2⟩
theorem small_two : ∀ n : Fin 41, Builtin.Range.small 2 (2 * ((n.val : Int) + 1)) 2 = true ∧ Builtin.Range.rangeSize 2 (2 * ((n.val : Int) + 1)) 2 = (n.val : Int) := by decide +kernel
theorem idxL' {value slice : Expr} {a : Addr} {xs : List Value} {ms : List Int} {k : Nat} {m : Int} {t : Tok} {Q : Value → Shared → Prop} (hl : s.heap.IsList a xs.toArray) (hi : IntsAre xs ms) (hk : k < 1000)
    (hx : ms[k]? = some m) (hs : subscripted slice false (.ref a) (.int (k : Int) t) = operate [.ref a, .int (k : Int) t] (getItem (.ref a) (.int (k : Int) t))) (h : ∀ u, Q (.int m u) s) :
    wpAny (model prog w) A (subscriptTail value slice (.ref a) (.int (k : Int) t)) Q E s := by
  obtain ⟨u, e⟩ := ints_get hi hx
  exact idxL hl (by omega) (by omega) (by simpa using e) hs (h u)
theorem setL' (H : FS G true s₀ env ns vs cns cvs led s) {i : Nat} {a : Addr} {P : Obj → Prop} {xs : List Value} {k : Nat} {t : Tok} {v : Value} {Q : Unit → Shared → Prop} (hi : led[i]? = some (a, P)) (hP : ∀ o, P o → LstO xs o)
    (h1 : k < 1000) (hn : k < xs.length) (h : ∀ s', FS G true s₀ env ns vs cns cvs (led.set i (a, LstO (xs.set k v))) s' → Q () s') :
    wpAny (model prog w) A (setItem (.ref a) (.int (k : Int) t) v) Q E s := setL H hi hP (by omega) (by omega) (by omega) h
theorem isNN {Q : Value → Shared → Prop} (h : Q (.bool true) s) : wpAny (model prog w) A (compareOp .Is .none .none) Q E s := wpAny_is_self (by decide) h
theorem isIN {a : Int} {t : Tok} {Q : Value → Shared → Prop} (h : Q (.bool false) s) : wpAny (model prog w) A (compareOp .Is (.int a t) .none) Q E s := is_int_none h
theorem isRN {a : Addr} {Q : Value → Shared → Prop} (h : Q (.bool false) s) : wpAny (model prog w) A (compareOp .Is (.ref a) .none) Q E s := is_ref_none h
theorem fdiv2 (H : FS G own s₀ env ns vs cns cvs led s) {a b : Nat} {t u : Tok} {Q : Value → Shared → Prop} (h : ∀ t s', FS G own s₀ env ns vs cns cvs led s' → Q (.int (((a + b) / 2 : Nat) : Int) t) s') :
    wpAny (model prog w) A (binaryOp .FloorDiv (.int ((a : Int) + (b : Int)) t) (.int 2 u)) Q E s :=
  fdivI H (by decide) (by decide) fun t s' H' => by
    have := h t s' H'
    rw [show Int.fdiv ((a : Int) + (b : Int)) 2 = (((a + b) / 2 : Nat) : Int) by
      rw [Int.fdiv_eq_ediv_of_nonneg _ (by decide)]; omega]
    exact this
theorem newL' (H : FS G own s₀ env ns vs cns cvs led s) {xs : List Value} {Q : Value → Shared → Prop} (hsz : xs.length ≤ 1000) (h : ∀ b s', FS G own s₀ env ns vs cns cvs ((b, PlO xs) :: led) s' → Q (.ref b) s') :
    wpAny (model prog w) A (newList xs) Q E s := newL H (size_1000 hsz) h
end
end Mine
namespace Mine
section
variable {G : Heap → Prop} {own : Bool} {s₀ : Shared} {env : Env} {nk : List (Str × NameKind)} {ns cns : List Str} {vs cvs : List (Option Value)} {led : Led} {s : Shared}
variable {prog : Program} {w : World} {A : Around} {E : Value → Shared → Prop}
/-- a loop over a list of the caller's -/
theorem forLX {x : Str} {px : Pos} {body : List Stmt} {Q : Flow → Shared → Prop} (hid : Led) {d : Nat} (hE : EnvIs env nk) (hR : Room A d) {l : Addr} {xs : List Value}
    (H : FS G true s₀ env ns vs cns cvs (led ++ hid) s) (hb0 : s₀.heap.IsList l xs.toArray)
    (J : Inv) (h0 : J 0 vs cvs led) (hx : nk.lookup x = some .local)
    (turn : ∀ i v vs₁ cvs₁ led₁, xs[i]? = some v → J i vs₁ cvs₁ led₁ → ∃ vs₂, Put ns vs₁ x v vs₂ ∧ ∀ hid' s₂, FS G true s₀ env ns vs₂ cns cvs₁ (led₁ ++ hid') s₂ →
      wpAny (model prog w) A (execs body env) (ForQ G s₀ env ns cns J (i + 1) hid' Q) (fun _ _ => False) s₂)
    (hQ : ∀ vs' cvs' led' s', J xs.length vs' cvs' led' → FS G true s₀ env ns vs' cns cvs' (led' ++ hid) s' → Q .next s') :
    wpAny (model prog w) A (pyIter (.ref l)) (fun it s₂ => codeAny (model prog w) A (.forLoop (.Name x px) it body [] env) (fun r s' => match r with | .ok f => Q f s' | .error e => cameBackBy (model prog w) A env E e s') s₂) E s := by
  refine forLs hE hx hR.handled H hb0 J h0 (fun i v vs₁ cvs₁ led₁ hi hJ => ?_) hQ
  obtain ⟨vs₂, hp, hb⟩ := turn i v vs₁ cvs₁ led₁ hi hJ
  refine ⟨vs₂, hp, fun hid' s₂ H₂ => wpAny_mono (hb hid' s₂ H₂) (fun f s₃ h₃ => ?_) fun _ _ f => f⟩
  cases f <;> exact h₃
/-- an expression that stands alone -/
theorem exExpr {e : Expr} {pos : Pos} {Q : Flow → Shared → Prop} (hE : EnvIs env nk) (h : wpAny (model prog w) A (eval e env) (fun _ => Q .next) E s) (hs : swapsWith e none pos.line env = pure false := by rfl) : wpAny (model prog w) A (exec (.Expr e pos) env) Q E s := wpAny_Expr_any h (by unfold interactive; rw [hE.kind]; rfl) hs
theorem gmAppend' (H : FS G own s₀ env ns vs cns cvs led s) {i : Nat} {a : Addr} {xs : List Value} {pl : Sem Bool} {Q : Value × List Value → Shared → Prop} (hm : led[i]? = some (a, PlO xs)) (h : Q (.builtin "list.append", [.ref a]) s) :
    wpAny (model prog w) A (getMethod (.ref a) (Str.ofString "append") pl) Q E s := gmAppend H (List.mem_of_getElem? hm) h
theorem FS.lstM (H : FS G own s₀ env ns vs cns cvs led s) {a : Addr} {xs : List Value} (hm : ∃ P, (a, P) ∈ led ∧ ∀ o, P o → LstO xs o) : s.heap.IsList a xs.toArray := by
  obtain ⟨P, h1, h2⟩ := hm; exact H.lstQ h1 h2
/-- new objects, laid by a call -/
def NewLed (s s' : Shared) (led : Led) : Prop := (∀ p ∈ led, (∃ o, s'.heap.get? p.1 = some o ∧ p.2 o) ∧ s.heap.get? p.1 = none) ∧ led.Pairwise fun x y => x.1 ≠ y.1
theorem FS.newLed (H : FS G own s₀ env ns vs cns cvs led s) : NewLed s₀ s led := ⟨fun p hp => ⟨(H.has p hp).1, (H.has p hp).2.2⟩, H.apart⟩
theorem FS.news (H : FS G own s₀ env ns vs cns cvs led s) {s' : Shared} (k : Keeps s s') {led' : Led} (N : NewLed s s' led') : FS G own s₀ env ns vs cns cvs (led' ++ led) s' := by
  have H' := H.keeps k
  refine { H' with cells := ?_, has := ?_, apart := ?_ }
  · intro x o b
    obtain ⟨c, h1, h2, h3, h4, h5⟩ := H'.cells x o b
    refine ⟨c, h1, h2, h3, h4, fun p hp => ?_⟩
    rcases List.mem_append.mp hp with hp | hp
    · obtain ⟨c', e, h2', _⟩ := H.cells x o b
      rw [h1] at e; cases e
      obtain ⟨oc, hoc, _⟩ := h2'
      intro e; subst e; rw [(N.1 p hp).2] at hoc; cases hoc
    · exact h5 p hp
  · intro p hq
    rcases List.mem_append.mp hq with hq | hq
    · refine ⟨(N.1 p hq).1, ?_, ?_⟩
      · obtain ⟨m, ⟨o, _, _, ho, _⟩, _⟩ := H.vars
        intro e; rw [← e, (N.1 p hq).2] at ho; cases ho
      · cases e : s₀.heap.get? p.1 with
        | none => rfl
        | some o => have := H.keep _ o e; rw [(N.1 p hq).2] at this; cases this
    · exact H'.has p hq
  · refine List.pairwise_append.mpr ⟨N.2, H.apart, fun x hx y hy e => ?_⟩
    obtain ⟨⟨o, ho, _⟩, _⟩ := H.has y hy
    rw [← e, (N.1 x hx).2] at ho; cases ho
/-- a name captured -/
theorem nmC0 (H : FS G own s₀ env ns vs cns cvs led s) (hE : EnvIs env nk) {x : Str} {pos : Pos} {v : Value} {Q : Value → Shared → Prop} {c : Addr} (hc : env.cells.lookup x = some c) (hv : s₀.heap.IsCell c (some v)) (hk : nk.lookup x = some .cell) (h : Q v s) :
    wpAny (model prog w) A (eval (.Name x pos) env) Q E s :=
  wpAny_Name (wpAny_loadName_cell hE.kind (hE.of hk) hc (let ⟨o, h1, h2⟩ := hv; ⟨o, H.keep _ _ h1, h2⟩) h) (hE.nd hk)
end
end Mine
namespace Mine
/-- one turn of a comprehension's clause -/
def cTurn (t : Expr) (ip : Pos) (body : Env → Sem Unit) (e : Expr) (d : Nat) (it acc : Value) (env : Env) : Sem Fin :=
  standAt ip >>= fun _ => pyNext it >>= fun r => match r with
    | none => pure (.done .next)
    | some v => letOwnedTupleGo t it v >>= fun _ => assign t env v >>= fun _ => body env >>= fun _ => again (.compLoop e d it acc env)
/-- what the outer clause does at each of its turns -/
def cInner (i1 : Expr) (e : Expr) (acc : Value) (env : Env) : Sem Unit :=
  eval i1 env >>= fun x => standAt i1.pos >>= fun _ => foldedSetIterable i1 env x >>= fun x => holding [x] (pyIter x) >>= fun it' => runOwn (.compStart e 1 it' acc env) env >>= fun _ => pure ()
def cEmit (elt : Expr) (acc : Value) (env : Env) : Sem Unit := eval elt env >>= fun x => call (.builtin "list.append") [acc, x] >>= fun _ => pure ()
theorem cTurn_0' (elt t0 i0 t1 i1 : Expr) (scope : Scope) (pos : Pos) (it acc : Value) (env : Env) :
    compTurn (.ListComp elt [⟨t0, i0, [], 0⟩, ⟨t1, i1, [], 0⟩] scope pos) 0 it acc env = (standAt i0.pos >>= fun _ => pyNext it >>= fun r => match r with
    | none => pure (.done .next)
    | some v => letOwnedTupleGo t0 it v >>= fun _ => assign t0 env v >>= fun _ =>
      (eval i1 env >>= fun x => standAt i1.pos >>= fun _ => foldedSetIterable i1 env x >>= fun x => holding [x] (pyIter x) >>= fun it' => runOwn (.compStart (.ListComp elt [⟨t0, i0, [], 0⟩, ⟨t1, i1, [], 0⟩] scope pos) 1 it' acc env) env >>= fun _ => again (.compLoop (.ListComp elt [⟨t0, i0, [], 0⟩, ⟨t1, i1, [], 0⟩] scope pos) 0 it acc env))) := by rfl
theorem cTurn_0 (elt t0 i0 t1 i1 : Expr) (scope : Scope) (pos : Pos) (it acc : Value) (env : Env) :
    compTurn (.ListComp elt [⟨t0, i0, [], 0⟩, ⟨t1, i1, [], 0⟩] scope pos) 0 it acc env = cTurn t0 i0.pos (cInner i1 (.ListComp elt [⟨t0, i0, [], 0⟩, ⟨t1, i1, [], 0⟩] scope pos) acc) (.ListComp elt [⟨t0, i0, [], 0⟩, ⟨t1, i1, [], 0⟩] scope pos) 0 it acc env := by
  rw [cTurn_0']
  unfold cTurn cInner
  simp only [bind_assoc, pure_bind]
theorem cTurn_1 (elt t0 i0 t1 i1 : Expr) (scope : Scope) (pos : Pos) (it acc : Value) (env : Env) :
    compTurn (.ListComp elt [⟨t0, i0, [], 0⟩, ⟨t1, i1, [], 0⟩] scope pos) 1 it acc env = cTurn t1 i1.pos (cEmit elt acc) (.ListComp elt [⟨t0, i0, [], 0⟩, ⟨t1, i1, [], 0⟩] scope pos) 1 it acc env := by rfl
section
variable {prog : Program} {w : World} {A : Around} {E : Value → Shared → Prop} {R : Result → Shared → Prop} {s : Shared}
theorem compLoopG {e elt t : Expr} {gens : List Comprehension} {scope : Scope} {pos ip : Pos} {d : Nat} {it acc : Value} {env : Env} {body : Env → Sem Unit} (he : e = .ListComp elt gens scope pos)
    (htn : compTurn e d it acc env = cTurn t ip body e d it acc env) (ht : ∀ v, letOwnedTupleGo t it v = pure ()) (I : Nat → Shared → Prop)
    (turn : ∀ n s, I n s → wpAny (model prog w) A (pyNext it) (fun r s₁ => match r with
      | none => R (.ok .next) s₁
      | some v => wpAny (model prog w) A (assign t env v) (fun _ s₂ => wpAny (model prog w) A (body env) (fun _ s₄ => ∃ m, m < n ∧ I m s₄) (fun _ _ => False) s₂) (fun _ _ => False) s₁) (fun _ _ => False) s)
    (n : Nat) (h : I n s) : codeAny (model prog w) A (.compLoop e d it acc env) R s := by
  subst he
  refine codeAny_loop rfl I (fun n s hI => ?_) n h
  show wpAny _ _ ((compTurn (.ListComp elt gens scope pos) d it acc env).onRaise (fun x => do noteFrame x env; theTreesLotGoes x)) _ _ s
  refine wpAny_noted ?_
  rw [htn]
  unfold cTurn
  refine wpAny_bind (wpAny_standAt (wpAny_bind (wpAny_mono (turn n s hI) (fun r s₁ h₁ => ?_) fun _ _ f => f.elim)))
  cases r with
  | none => exact wpAny_pure h₁
  | some v =>
    refine wpAny_bind (wpAny_of_eq (ht v) ?_)
    exact wpAny_bind (wpAny_mono h₁ (fun _ s₂ h₂ => wpAny_bind (wpAny_mono h₂ (fun _ s₃ h₃ => wpAny_pure ⟨rfl, h₃⟩) fun _ _ f => f.elim)) fun _ _ f => f.elim)
theorem compStartG {e elt : Expr} {g : Comprehension} {gens : List Comprehension} {scope : Scope} {pos : Pos} {d : Nat} {it acc : Value} {env : Env} (he : e = .ListComp elt gens scope pos) (hg : gens[d]? = some g) (hga : g.is_async = 0)
    (h0 : codeAny (model prog w) A (.compLoop e d it acc env) R s)
    (h : wpAny (model prog w) A (pyIter it) (fun it' s' => codeAny (model prog w) A (.compLoop e d it' acc env) R s') (fun _ _ => False) s) :
    codeAny (model prog w) A (.compStart e d it acc env) R s := by
  subst he
  refine codeAny_of_tree ?_
  show wpAny _ _ ((compStart (.ListComp elt gens scope pos) d it acc env).onRaise (fun x => do noteFrame x env; standAt theWindowsPlace)) _ _ s
  refine wpAny_notedAt ?_
  unfold compStart
  rw [show clausesOf (.ListComp elt gens scope pos) = gens from rfl, hg]
  simp only [Option.elim, hga]
  refine wpAny_bind (wpAny_askSetting (wpAny_ite ?_))
  split
  · first
      | exact wpAny_bind (wpAny_pure (wpAny_pure (And.intro rfl h0)))
      | exact wpAny_pure (And.intro rfl h0)
  · first
      | exact wpAny_bind (wpAny_rule (wpAny_bind (wpAny_standAt (wpAny_bind (wpAny_mono h (fun it' s' h' => wpAny_pure (And.intro rfl h')) fun _ _ x => x.elim)))))
      | (refine wpAny_bind (wpAny_rule ?_); show wpAny _ _ (standAt g.iter.pos >>= _) _ _ s; exact wpAny_bind (wpAny_standAt (wpAny_bind (wpAny_mono h (fun it' s' h' => wpAny_pure (And.intro rfl h')) fun _ _ x => x.elim))))
end
end Mine
namespace Mine
section
variable {G : Heap → Prop} {own : Bool} {s₀ : Shared} {env : Env} {nk : List (Str × NameKind)} {ns cns : List Str} {vs cvs : List (Option Value)} {led : Led} {s : Shared}
variable {prog : Program} {w : World} {A : Around} {E : Value → Shared → Prop} {R : Result → Shared → Prop}

/-- a comprehension's clause over a range, its frame told -/
theorem compLoopR {e elt : Expr} {gens : List Comprehension} {scope : Scope} {pos ip px : Pos} {d : Nat} {acc : Value} {x : Str} {body : Env → Sem Unit} {hid : Led} (he : e = .ListComp elt gens scope pos) (hE : EnvIs env nk) (hx : nk.lookup x = some .local) (hh : A.handled = none)
    {I : Addr} (htn : compTurn e d (.ref I) acc env = cTurn (.Name x px) ip body e d (.ref I) acc env) {a : Int} {n : Nat}
    (H : FS G true s₀ env ns vs cns cvs (led ++ (I, RIt a n 1) :: hid) s) (J : Nat → List (Option Value) → Led → Prop) (h0 : J 0 vs led)
    (turn : ∀ i t vs₁ led₁, i < n → J i vs₁ led₁ → ∃ vs₂, Put ns vs₁ x (.int (a + (i : Int)) t) vs₂ ∧ ∀ hid' s₂, FS G true s₀ env ns vs₂ cns cvs (led₁ ++ hid') s₂ →
      wpAny (model prog w) A (body env) (fun _ s₃ => ∃ vs₃ led₃, J (i + 1) vs₃ led₃ ∧ FS G true s₀ env ns vs₃ cns cvs (led₃ ++ hid') s₃) (fun _ _ => False) s₂)
    (hR : ∀ vs' led' s', J n vs' led' → FS G true s₀ env ns vs' cns cvs (led' ++ hid) s' → R (.ok .next) s') :
    codeAny (model prog w) A (.compLoop e d (.ref I) acc env) R s := by
  have W := Walks.range (prog := prog) (w := w) (A := A) hh I a 1 n
  refine compLoopG he htn (fun _ => rfl) (fun k s' => ∃ i vs' led', i ≤ n ∧ k = n + 1 - i ∧ J i vs' led' ∧ FS G true s₀ env ns vs' cns cvs (led' ++ (I, RIt (a + (i : Int) * 1) ((n : Int) - (i : Int)) 1) :: hid) s') ?_ (n + 1)
    ⟨0, vs, led, Nat.zero_le _, rfl, h0, by simpa using H⟩
  rintro k s' ⟨i, vs', led', hi, rfl, hJ, H'⟩
  have hit : IsRangeIter s'.heap I (a + (i : Int) * 1) ((n : Int) - (i : Int)) 1 := by
    obtain ⟨⟨o, ho, e⟩, _⟩ := H'.has (I, RIt (a + (i : Int) * 1) ((n : Int) - (i : Int)) 1) (by simp)
    unfold RIt at e
    rw [e] at ho; exact ho
  by_cases hlt : i < n
  · refine W.item i s' _ _ hlt hit fun v h' tk hv hst hk => ?_
    obtain ⟨t, rfl⟩ := hv
    have H2 := H'.setMid (h' := h') (n := tk) (P' := RIt (a + ((i + 1 : Nat) : Int) * 1) ((n : Int) - ((i + 1 : Nat) : Int)) 1) (fun b o hb e => hk b o (by simpa using hb) e) ⟨_, hst, rfl⟩
    obtain ⟨vs₂, hp, hb⟩ := turn i t vs' led' hlt hJ
    rw [Int.mul_one]
    refine wpAny_assign_Name (stL H2 hE hp hx fun s₂ H3 => ?_)
    refine wpAny_mono (hb _ s₂ H3) (fun f s₃ h₃ => ?_) fun _ _ f => f.elim
    obtain ⟨vs₃, led₃, hJ₃, H4⟩ := h₃
    exact ⟨n + 1 - (i + 1), by omega, i + 1, vs₃, led₃, hlt, rfl, hJ₃, H4⟩
  · have hin : i = n := by omega
    subst hin
    refine W.done s' _ _ hit fun h' tk hk => ?_
    exact hR vs' led' _ hJ (H'.dropMid fun b o hb e => hk b o (by simpa using hb) e)
theorem flat_snoc (f : Nat → List Int) (n : Nat) : (((List.range (n + 1)).map f).flatten) = ((List.range n).map f).flatten ++ f n := by
  rw [List.range_succ, List.map_append, List.flatten_append]; simp
theorem ints_snoc : ∀ {xs : List Value} {ms : List Int}, IntsAre xs ms → ∀ (m : Int) (t : Tok), IntsAre (xs ++ [.int m t]) (ms ++ [m])
  | _, _, .nil, m, t => .cons m t .nil
  | _, _, .cons n u r, m, t => .cons n u (ints_snoc r m t)

/-- [x for x in range(..) for t in range(..)] -/
theorem evComp2 (SG : Stable G) (hE : EnvIs env nk) (hh : A.handled = none) {x t : Str} {px pt pe : Pos} {i0 i1 : Expr} {scope : Scope} {cl : List (Str × Addr)} {pos : Pos} {Q : Value → Shared → Prop} (H : FS G own s₀ env ns vs cns cvs led s)
    (hclos : closureFor scope env = pure cl) (hcell : ∀ y ∈ scope.names, y.2 ≠ .cell) (hkind : scope.kind = .function)
    (hnames : ∀ y ∈ scope.names, y.2 = .local → scope.names.lookup y.1 = some .local) (hx : (compNames scope nk).lookup x = some .local) (ht : (compNames scope nk).lookup t = some .local) (hxt : x ≠ t)
    (hd : (compNames scope nk).lookup (Str.ofString "__debug__") = none) (hinj : ∀ x y c, cl.lookup x = some c → cl.lookup y = some c → x = y)
    (a : Int) (n : Nat) (k : Nat → Nat) (hn : n ≤ 50) (hk : ∀ i, i < n → k i ≤ 100)
    (h0 : wpAny (model prog w) A (eval i0 env) (fun xv s₁ => FS G own s₀ env ns vs cns cvs led s₁ ∧ ∃ r b t1 t2 t3, xv = .ref r ∧ IsRange s₁.heap r a b 1 t1 t2 t3 ∧ Builtin.Range.small a b 1 = true ∧ Builtin.Range.rangeSize a b 1 = n) E s)
    (h1 : ∀ C s₁ (i : Nat) tk o led' s₃, i < n → FS G own s₀ env ns vs cns cvs led s₁ → FS G true s₁ (compEnvC scope cl C env) [x, t] [some (.int (a + (i : Int)) tk), o] [] [] led' s₃ →
      wpAny (model prog w) A (eval i1 (compEnvC scope cl C env)) (fun xv s₄ => FS G true s₁ (compEnvC scope cl C env) [x, t] [some (.int (a + (i : Int)) tk), o] [] [] led' s₄ ∧ ∃ r t1 t2 t3, xv = .ref r ∧ IsRange s₄.heap r 0 (k i) 1 t1 t2 t3) (fun _ _ => False) s₃)
    (hQ : ∀ D ys s', FS G own s₀ env ns vs cns cvs ((D, PlO ys) :: led) s' → IntsAre ys (((List.range n).map fun (i : Nat) => List.replicate (k i) (a + (i : Int))).flatten) → Q (.ref D) s')
    (hs0 : ∀ x, foldedSetIterable i0 env x = pure x := by intro _; rfl) (hs1 : ∀ C x, foldedSetIterable i1 (compEnvC scope cl C env) x = pure x := by intro _ _; rfl) :
    wpAny (model prog w) A (eval (.ListComp (.Name x pe) [⟨.Name x px, i0, [], 0⟩, ⟨.Name t pt, i1, [], 0⟩] scope pos) env) Q E s := by
  rw [eval_ListComp]
  refine wpAny_comprehension_free (use := none) rfl hs0 hclos hkind hnames (wpAny_mono h0 (fun xv s₁ h₁ => ?_) fun _ _ e => e)
  obtain ⟨H₁, r, b, t1, t2, t3, rfl, hr, hsm, hrn⟩ := h₁
  refine wpAny_pyIter_range hr hsm ?_
  rw [hrn]
  refine wpAny_newObj_type (wpAny_newFunctionEnv hcell (by intro y hy; simp at hy) (fun h₁ hns₁ hsb₁ => ?_) hkind)
  dsimp only at hns₁ hsb₁ ⊢
  generalize hH1 : s₁.heap.push { cls := .type "range_iterator", data := .fields #[rawInt a, rawInt n, rawInt 1] } = H1 at hns₁ hsb₁ ⊢
  have hIs : s₁.heap.get? s₁.heap.objs.size = none := fresh_size _
  have hI1 : H1.objs.size = s₁.heap.objs.size + 1 := by rw [← hH1, Heap.size_push]
  generalize hH2 : H1.push { cls := .type "list", dict := none, data := .seq ([] : List Value).toArray } = H2 at hns₁ hsb₁ ⊢
  have hC : H2.objs.size = s₁.heap.objs.size + 2 := by rw [← hH2, Heap.size_push, hI1]
  generalize hI : s₁.heap.objs.size = I at *
  have fresh : ∀ b, I ≤ b → s₁.heap.get? b = none := fun b hb => Heap.get?_none_of_le (by rw [hI]; exact hb)
  have old : ∀ b o, s₁.heap.get? b = some o → h₁.get? b = some o := fun b o e => by
    have hb : b < I := by rw [← hI]; exact Heap.lt_size e
    exact hsb₁.extBut b o (hC ▸ Nat.ne_of_lt (Nat.lt_succ_of_lt (Nat.lt_succ_of_lt hb))) (Heap.get?_push_of_some _ (hH2 ▸ Heap.get?_push_of_some _ (hH1 ▸ Heap.get?_push_of_some _ e)))
  have hIo : h₁.get? I = some { cls := .type "range_iterator", data := .fields #[rawInt a, rawInt n, rawInt 1] } := by
    refine hsb₁.extBut I _ (hC ▸ Nat.ne_of_lt (Nat.lt_succ_of_lt (Nat.lt_succ_self _))) (Heap.get?_push_of_some _ (hH2 ▸ Heap.get?_push_of_some _ (hH1 ▸ ?_)))
    have := Heap.get?_push_size s₁.heap (o := { cls := .type "range_iterator", data := .fields #[rawInt a, rawInt n, rawInt 1] }) rfl
    rw [hI] at this; exact this
  have hDo : h₁.get? H1.objs.size = some { cls := .type "list", dict := none, data := .seq ([] : List Value).toArray } :=
    hsb₁.extBut _ _ (by rw [hC, hI1]; exact Nat.ne_of_lt (Nat.lt_succ_self _)) (Heap.get?_push_of_some _ (hH2 ▸ Heap.get?_push_size _ rfl))
  have hE' : EnvIs (compEnvC scope cl H2.objs.size env) (compNames scope nk) := compEnv_is hE hkind cl _ hd
  have HC : ∀ tk, FS G true s₁ (compEnvC scope cl H2.objs.size env) [x, t] [none, none] [] [] ([(H1.objs.size, PlO [])] ++ (I, RIt a n 1) :: []) { s₁ with heap := h₁, toks := tk } := fun tk => by
    refine ⟨⟨h₁, tk, rfl⟩, old, H₁.gg SG, by simp [hxt], by simp, ⟨_, hns₁, fun y u au => ?_⟩, fun y o ao => (by cases ao), hinj, fun p hp => ?_, ?_, fun _ => fresh _ (hC ▸ Nat.le_add_right _ _)⟩
    · cases au with | tail au => cases au with | tail au => cases au
    · simp only [List.cons_append, List.nil_append, List.mem_cons, List.not_mem_nil, or_false] at hp
      rcases hp with rfl | rfl
      · exact ⟨⟨_, hDo, 0, rfl⟩, by show H1.objs.size ≠ H2.objs.size; rw [hC, hI1]; exact Nat.ne_of_lt (Nat.lt_succ_self _), fresh _ (by show I ≤ H1.objs.size; rw [hI1]; exact Nat.le_succ _)⟩
      · exact ⟨⟨_, hIo, rfl⟩, by show I ≠ H2.objs.size; rw [hC]; exact Nat.ne_of_lt (Nat.lt_succ_of_lt (Nat.lt_succ_self _)), fresh _ (Nat.le_refl _)⟩
    · simp only [List.cons_append, List.nil_append, List.pairwise_cons, List.mem_cons, List.not_mem_nil, or_false, List.Pairwise.nil, and_true, false_imp_iff, implies_true, forall_eq]
      show H1.objs.size ≠ I
      rw [hI1]; exact Nat.succ_ne_self _
  generalize hDD : H1.objs.size = D at *
  generalize hCC : H2.objs.size = C at *
  have W0 := Walks.range (prog := prog) (w := w) (A := A) hh I a 1 n
  have loop : ∀ tk, codeAny (model prog w) A (.compLoop (.ListComp (.Name x pe) [⟨.Name x px, i0, [], 0⟩, ⟨.Name t pt, i1, [], 0⟩] scope pos) 0 (.ref I) (.ref D) (compEnvC scope cl C env)) (compPost (model prog w) A E none Q (.ref D) C) { s₁ with heap := h₁, toks := tk } := fun tk => by
    refine compLoopR (led := [(D, PlO [])]) (hid := []) (px := px) rfl hE' hx hh (cTurn_0 ..) (HC tk)
      (fun i vs led => ∃ (o1 o2 : Option Value) (ys : List Value), vs = [o1, o2] ∧ led = [(D, PlO ys)] ∧ IntsAre ys (((List.range i).map fun (i : Nat) => List.replicate (k i) (a + (i : Int))).flatten) ∧ ys.length ≤ 100 * i) ⟨none, none, [], rfl, rfl, .nil, Nat.zero_le _⟩ ?_ ?_
    · rintro i tk _ _ hi ⟨o1, o2, ys, rfl, rfl, hys, hlen⟩
      refine ⟨[some (.int (a + (i : Int)) tk), o2], .head, fun hid' s₂ H₂ => ?_⟩
      unfold cInner
      refine wpAny_bind (wpAny_mono (h1 C s₁ i tk o2 _ s₂ hi H₁ H₂) (fun xv s₄ h₄ => ?_) fun _ _ f => f)
      obtain ⟨H₄, r, t1, t2, t3, rfl, hr⟩ := h₄
      have hki := hk i hi
      refine wpAny_bind (wpAny_standAt (wpAny_bind (wpAny_of_eq (hs1 C _) (wpAny_bind (wpAny_holding ?_)))))
      have hsm1 := small_n (n := k i) (by omega)
      refine wpAny_pyIter_range hr hsm1.1 ?_
      rw [hsm1.2]
      have H₅ := (H₄.new (a := s₄.heap.objs.size) (P := RIt 0 (k i) 1) (keeps_push s₄ { cls := .type "range_iterator", data := .fields #[rawInt 0, rawInt (k i), rawInt 1] } s₄.toks) (fresh_size _) ⟨_, Heap.get?_push_size _ rfl, rfl⟩).perm (List.perm_middle (l₁ := [(D, PlO ys)]).symm)
      have hI5 : IsRangeIter (s₄.heap.push { cls := .type "range_iterator", data := .fields #[rawInt 0, rawInt (k i), rawInt 1] }) s₄.heap.objs.size 0 (k i) 1 := Heap.get?_push_size _ rfl
      generalize hII : s₄.heap.objs.size = I' at *
      have W1 := Walks.range (prog := prog) (w := w) (A := A) hh I' 0 1 (k i)
      have loop1 : ∀ (Q' : Flow → Shared → Prop), (∀ o2 ys' s', FS G true s₁ (compEnvC scope cl C env) [x, t] [some (.int (a + (i : Int)) tk), o2] [] [] ([(D, PlO ys')] ++ hid') s' → IntsAre ys' (((List.range i).map fun (i : Nat) => List.replicate (k i) (a + (i : Int))).flatten ++ List.replicate (k i) (a + (i : Int))) → ys'.length ≤ 100 * i + k i → Q' .next s') →
          codeAny (model prog w) A (.compLoop (.ListComp (.Name x pe) [⟨.Name x px, i0, [], 0⟩, ⟨.Name t pt, i1, [], 0⟩] scope pos) 1 (.ref I') (.ref D) (compEnvC scope cl C env)) (fun r s' => match r with | .ok f => Q' f s' | .error e => cameBackBy (model prog w) A (compEnvC scope cl C env) (fun _ _ => False) e s') { s₄ with heap := s₄.heap.push { cls := .type "range_iterator", data := .fields #[rawInt 0, rawInt (k i), rawInt 1] } } := fun Q' hQ' => by
        refine compLoopR (led := [(D, PlO ys)]) (hid := hid') (px := pt) rfl hE' ht hh (cTurn_1 ..) H₅
          (fun m vs led => ∃ (o2 : Option Value) (ys' : List Value), vs = [some (.int (a + (i : Int)) tk), o2] ∧ led = [(D, PlO ys')] ∧ IntsAre ys' (((List.range i).map fun (i : Nat) => List.replicate (k i) (a + (i : Int))).flatten ++ List.replicate m (a + (i : Int))) ∧ ys'.length ≤ 100 * i + m) ⟨o2, ys, rfl, rfl, by simpa using hys, by omega⟩ ?_ ?_
        · rintro m tk2 _ _ hm ⟨o3, ys', rfl, rfl, hys', hlen'⟩
          refine ⟨[some (.int (a + (i : Int)) tk), some (.int (0 + (m : Int)) tk2)], .tail .head, fun hid'' s₆ H₆ => ?_⟩
          unfold cEmit
          refine wpAny_bind (nmL H₆ hE' .head hx (wpAny_bind (appL H₆ (i := 0) rfl (by rw [sizeLine_eq]; omega) fun s₇ H₇ => wpAny_pure ?_)))
          · exact ⟨_, [(D, PlO _)], ⟨_, _, rfl, rfl, by rw [List.replicate_succ', ← List.append_assoc]; exact ints_snoc hys' _ _, by simp; omega⟩, H₇⟩
        · rintro _ _ s' ⟨o3, ys', rfl, rfl, hys', hlen'⟩ H₇
          exact hQ' _ _ _ H₇ hys' hlen'
      have fin : ∀ o2 ys' s', FS G true s₁ (compEnvC scope cl C env) [x, t] [some (.int (a + (i : Int)) tk), o2] [] [] ([(D, PlO ys')] ++ hid') s' → IntsAre ys' (((List.range i).map fun (i : Nat) => List.replicate (k i) (a + (i : Int))).flatten ++ List.replicate (k i) (a + (i : Int))) → ys'.length ≤ 100 * i + k i →
          wpAny (model prog w) A (pure () : Sem Unit) (fun _ s₃ => ∃ vs₃ led₃, (∃ (o1 o2 : Option Value) (ys : List Value), vs₃ = [o1, o2] ∧ led₃ = [(D, PlO ys)] ∧ IntsAre ys (((List.range (i + 1)).map fun (i : Nat) => List.replicate (k i) (a + (i : Int))).flatten) ∧ ys.length ≤ 100 * (i + 1)) ∧ FS G true s₁ (compEnvC scope cl C env) [x, t] vs₃ [] [] (led₃ ++ hid') s₃) (fun _ _ => False) s' := fun o2 ys' s' H₇ hys' hlen' =>
        wpAny_pure ⟨_, _, ⟨_, _, ys', rfl, rfl, by rw [flat_snoc]; exact hys', by omega⟩, H₇⟩
      refine wpAny_bind (wpAny_runOwn (h := none) (compStartG (d := 1) rfl rfl rfl ?_ ?_))
      · exact loop1 _ fin
      · exact W1.self 0 _ _ _ (by simpa using hI5) (loop1 _ fin)
    · rintro _ _ s' ⟨o1, o2, ys, rfl, rfl, hys, hlen⟩ H₅
      obtain ⟨m, hm, _⟩ := H₅.vars
      refine ⟨m, hm, fun h' hs' => ?_⟩
      have hCf : s₁.heap.get? C = none := H₅.fresh rfl
      obtain ⟨⟨o, ho, hP⟩, hDC, hDf⟩ := H₅.has (D, PlO ys) (by simp)
      have hkeep : ∀ b o, s₁.heap.get? b = some o → h'.get? b = some o := fun b o e => hs'.extBut b o (by rintro rfl; rw [hCf] at e; cases e) (H₅.keep b o e)
      obtain ⟨h9, tk9, e9⟩ := H₅.same
      subst e9
      refine hQ D ys _ (H₁.new ⟨h', tk9, rfl, hkeep⟩ hDf ⟨o, hs'.extBut _ _ hDC ho, hP⟩) hys
  refine compStartG (e := .ListComp (.Name x pe) [⟨.Name x px, i0, [], 0⟩, ⟨.Name t pt, i1, [], 0⟩] scope pos) (d := 0) rfl rfl rfl (loop _) ?_
  exact W0.self 0 _ _ _ (by simpa [IsRangeIter] using hIo) (loop _)
end
end Mine
namespace Mine
/-- the cells that a def or a comprehension takes along -/
def clOf (cells : Str → Option Addr) : List (Str × NameKind) → List (Str × Addr) → Option (List (Str × Addr))
  | [], cs => some cs
  | (x, k) :: r, cs => if (k == .free) = true then (match cells x with | some c => clOf cells r ((x, c) :: cs) | none => none) else clOf cells r cs
theorem closureFor_go {env : Env} : ∀ (l : List (Str × NameKind)) (cs cl : List (Str × Addr)), clOf (fun x => env.cells.lookup x) l cs = some cl →
    (forIn (m := Sem) l cs fun (x : Str × NameKind) (r : List (Str × Addr)) => if (x.2 == .free) = true then do let c ← cellOf env x.1; pure (ForInStep.yield ((x.1, c) :: r)) else pure (ForInStep.yield r)) = pure cl
  | [], cs, cl, h => by simp [clOf] at h; subst h; rfl
  | (x, k) :: r, cs, cl, h => by
    unfold clOf at h
    rw [List.forIn_cons]
    by_cases hk : (k == NameKind.free) = true
    · rw [if_pos hk] at h
      simp only [hk, if_true]
      split at h
      · rename_i c hc
        unfold cellOf
        rw [hc]
        simp only [pure_bind]
        exact closureFor_go r _ cl h
      · cases h
    · rw [if_neg hk] at h
      simp only [hk, if_false]
      simp only [Bool.false_eq_true, if_false, pure_bind]
      exact closureFor_go r _ cl h
theorem closureFor_is {scope : Scope} {env : Env} {cl : List (Str × Addr)} (h : clOf (fun x => env.cells.lookup x) scope.names [] = some cl) : closureFor scope env = pure cl := by
  have := closureFor_go scope.names [] cl h
  unfold closureFor
  first
    | exact this
    | (simp only [bind_pure]; exact this)
theorem lookup_one {x y : Str} {a c : Addr} (h : List.lookup y [(x, a)] = some c) : y = x ∧ c = a := by
  rw [List.lookup_cons] at h
  split at h
  · rename_i e; exact ⟨eq_of_beq e, by cases h; rfl⟩
  · cases h
theorem inj_one {x : Str} {a : Addr} : ∀ y z c, List.lookup y [(x, a)] = some c → List.lookup z [(x, a)] = some c → y = z := fun y z c h1 h2 => (lookup_one h1).1.trans (lookup_one h2).1.symm
section
variable {G : Heap → Prop} {own : Bool} {s₀ : Shared} {env : Env} {nk : List (Str × NameKind)} {ns cns : List Str} {vs cvs : List (Option Value)} {led : Led} {s : Shared}
theorem FS.ex (H : FS G own s₀ env ns vs cns cvs led s) (P : Led → Prop) (hp : P led) : ∃ L, P L ∧ FS G own s₀ env ns vs cns cvs L s := ⟨led, hp, H⟩
theorem FS.nil (H : FS G own s₀ env ns vs cns cvs led s) : FS G own s₀ env ns vs cns cvs (led ++ []) s := by rw [List.append_nil]; exact H
theorem FS.cell (H : FS G own s₀ env ns vs cns cvs led s) {x : Str} {v : Value} (a : At cns cvs x v) : ∃ c, env.cells.lookup x = some c ∧ s.heap.IsCell c (some v) := by
  obtain ⟨c, h1, h2, _⟩ := H.cells x _ a.o; exact ⟨c, h1, h2⟩
end
/-- ints by their places -/
theorem ints_by : ∀ (ys : List Value) (f : Nat → Int) (n : Nat), ys.length = n → (∀ j : Nat, j < n → ∃ t, ys[j]? = some (.int (f j) t)) → IntsAre ys ((List.range n).map f) := by
  intro ys f n hl h
  refine ints_of_get ys _ (by simp [hl]) fun i m hm => ?_
  have hi : i < n := by
    have := (List.getElem?_eq_some_iff.mp hm).1
    simpa using this
  rw [List.getElem?_map, List.getElem?_range hi] at hm
  simp at hm
  subst hm
  exact h i hi
section
variable {M : Model} {A : Around} {E : Value → Shared → Prop} {s : Shared} {env : Env} {nk : List (Str × NameKind)}
theorem wpE {α : Type} {t : Sem α} {Q : α → Shared → Prop} (h : wpAny M A t Q (fun _ _ => False) s) : wpAny M A t Q E s := wpAny_mono h (fun _ _ q => q) fun _ _ f => f.elim
/-- a comprehension bound to a cell -/
theorem exAssignC (hE : EnvIs env nk) {x : Str} {pos' pos p2 : Pos} {elt : Expr} {gens : List Comprehension} {scope : Scope} {Q : Flow → Shared → Prop} (hk : nk.lookup x = some .cell)
    (h : wpAny M A (eval (.ListComp elt gens scope p2) env) (fun v s₁ => wpAny M A (storeName env x v) (fun _ => Q .next) E s₁) E s) :
    wpAny M A (exec (.Assign [.Name x pos'] (.ListComp elt gens scope p2) pos) env) Q E s := by
  refine wpAny_Assign_Name h ?_
  have e := hE.of hk
  unfold swapsWith
  simp only [e]
  have h1 : (some NameKind.cell == some NameKind.local) = false := rfl
  simp only [h1, Bool.and_false, Bool.false_and]
end
end Mine
namespace Mine
theorem FS.ofFr {G : Heap → Prop} {s₁ : Shared} {env : Env} {h₁ : Heap} {tk₁ : Nat} {m : Str → Option Value} {ns cns : List Str} {vs : List (Option Value)} (hL : env.locals = s₁.heap.objs.size) (F : Fr s₁.heap s₁.heap.objs.size h₁ m) (g : G s₁.heap)
    (hnd : ns.Nodup) (hcnd : cns.Nodup) (hv : ∀ x v, At ns vs x v → m x = some v) (hc : ∀ x ∈ cns, ∃ c o, env.cells.lookup x = some c ∧ h₁.get? c = some o ∧ o.data = .cell none ∧ s₁.heap.get? c = none ∧ c ≠ s₁.heap.objs.size)
    (hinj : ∀ x y c, env.cells.lookup x = some c → env.cells.lookup y = some c → x = y) :
    FS G true s₁ env ns vs cns (cns.map fun _ => none) [] { s₁ with heap := h₁, toks := tk₁ } := by
  refine ⟨⟨h₁, tk₁, rfl⟩, F.keep, g, hnd, hcnd, ⟨m, by rw [hL]; exact F.ns, hv⟩, fun x o a => ?_, hinj, fun p hp => (nomatch hp), List.Pairwise.nil, fun _ => Heap.get?_none_of_le (by rw [hL]; exact Nat.le_refl _)⟩
  have e := atO_nones cns a
  subst e
  obtain ⟨c, o, h1, h2, h3, h4, h5⟩ := hc x a.mem
  exact ⟨c, h1, ⟨o, h2, h3⟩, fun _ => h4, by rw [hL]; exact h5, fun p hp => (nomatch hp)⟩
theorem inj_two {x y : Str} {a b : Addr} (hab : a ≠ b) : ∀ u v c, List.lookup u [(x, a), (y, b)] = some c → List.lookup v [(x, a), (y, b)] = some c → u = v := by
  intro u v c h1 h2
  have key : ∀ u, List.lookup u [(x, a), (y, b)] = some c → (u = x ∧ c = a) ∨ (u = y ∧ c = b) := fun u h => by
    rw [List.lookup_cons] at h
    split at h
    · rename_i e; exact .inl ⟨eq_of_beq e, by cases h; rfl⟩
    · exact .inr (lookup_one h)
  rcases key u h1 with ⟨rfl, rfl⟩ | ⟨rfl, rfl⟩ <;> rcases key v h2 with ⟨rfl, e⟩ | ⟨rfl, e⟩
  · rfl
  · exact absurd e hab
  · exact absurd e.symm hab
  · rfl
theorem goodTrue {c : ClaimW} {cl : Str → Option Addr} {mean : ExcName → Option Value} {args : List WData} {s₁ s' : Shared} (k : Keeps s₁ s') (hg : s₁.gens = #[]) (hn : ∀ cls, c.raises args cls = false) (hp : c.post args (.bool true) args = true) :
    GoodW c cl mean args s₁ (.ok (.ret (.bool true))) s' := by
  obtain ⟨h, tk, rfl, kk⟩ := k
  exact ⟨.inl ⟨.bool true, .bool true, [], rfl, hn, .bool true, hp, unshared_nil⟩, kk, rfl, hg⟩
theorem at_none : ∀ {ns : List Str} {x : Str} {v : Value}, At ns (ns.map fun _ => none) x v → False
  | _ :: _, _, _, .tail a => at_none a
theorem room_law (env : Env) : Room (callerA.deeper env) 4 := Room.deeper ⟨by decide, by decide, rfl⟩ env
end Mine
namespace Mine
open_top hd2 for PySem.Challenge.rw_pu0024_02
end Mine
namespace Mine
noncomputable abbrev KK : Params → Frag := hd2.heap_39
/-- the program's top, at a heap -/
def GG (w : World) (h : Heap) : Prop := (KK w.params).In h ∧ h.NoLimit ∧ (∃ mg, h.Ns mainGlobals mg) ∧ ∃ mb, h.Ns builtinsNs mb ∧ ∀ x : Str, x ≠ "__name__" → mb x = bootBuiltins x
theorem GG.st (w : World) : Stable (GG w) := ⟨fun _ _ g k => ⟨g.1.keeps k, g.2.1.keeps k, (let ⟨mg, h⟩ := g.2.2.1; ⟨mg, h.keeps k⟩), (let ⟨mb, h, e⟩ := g.2.2.2; ⟨mb, h.keeps k, e⟩)⟩⟩
theorem GG.glob {w : World} {x : Str} {v : Value} (e : nsIn (KK w.params) mainGlobals x = some (some v)) : GName (GG w) x v := fun _ g => by
  obtain ⟨mg, hm⟩ := g.2.2.1
  exact ⟨mg, hm, mg_of g.1 hm e⟩
theorem GG.built {w : World} {x : Str} {v : Value} (e : nsIn (KK w.params) mainGlobals x = some none) (hv : bootBuiltins x = some v) (hn : x ≠ "__name__") : BName (GG w) x v := fun _ g => by
  obtain ⟨mg, hm⟩ := g.2.2.1
  obtain ⟨mb, hb, q⟩ := g.2.2.2
  exact ⟨mg, mb, hm, mg_none_of g.1 hm e, hb, (q x hn).trans hv⟩
theorem GG.fn {w : World} {a : Addr} (e : fnIn (KK w.params) a = true) : FnAt (GG w) a := by
  unfold fnIn at e
  split at e
  · rename_i c d fd sl q
    exact ⟨_, fd, fun _ g => g.1 _ _ q, rfl⟩
  · cases e

theorem g_MAX (w : World) : GName (GG w) (Str.ofString "_MAX_STRING_SIZE") (.int 40 219) := GG.glob (by kernel_rfl)
theorem g_MOVE (w : World) : GName (GG w) (Str.ofString "_MOVE_COST") (.int 2 221) := GG.glob (by kernel_rfl)
theorem g_CASE (w : World) : GName (GG w) (Str.ofString "_CASE_COST") (.int 1 223) := GG.glob (by kernel_rfl)
theorem g_sub (w : World) : GName (GG w) (Str.ofString "_substitution_cost") (.ref 39) := GG.glob (by kernel_rfl)
theorem g_lev (w : World) : GName (GG w) (Str.ofString "_levenshtein_distance") (.ref 46) := GG.glob (by kernel_rfl)
theorem b_len (w : World) : BName (GG w) (Str.ofString "len") (.builtin "len") := GG.built (by kernel_rfl) (by decide +kernel) (by decide)
theorem b_min (w : World) : BName (GG w) (Str.ofString "min") (.builtin "min") := GG.built (by kernel_rfl) (by decide +kernel) (by decide)
theorem b_range (w : World) : BName (GG w) (Str.ofString "range") (.type "range") := GG.built (by kernel_rfl) (by decide +kernel) (by decide)
theorem b_list (w : World) : BName (GG w) (Str.ofString "list") (.type "list") := GG.built (by kernel_rfl) (by decide +kernel) (by decide)
theorem f_sub (w : World) : FnAt (GG w) 39 := GG.fn (by kernel_rfl)
theorem f_lev (w : World) : FnAt (GG w) 46 := GG.fn (by kernel_rfl)
theorem g_fig (w : World) : GName (GG w) (Str.ofString "_law_figures") (.ref 53) := GG.glob (by kernel_rfl)
theorem f_fig (w : World) : FnAt (GG w) 53 := GG.fn (by kernel_rfl)
theorem g_text (w : World) : GName (GG w) (Str.ofString "_law_text") (.ref 58) := GG.glob (by kernel_rfl)
theorem f_text (w : World) : FnAt (GG w) 58 := GG.fn (by kernel_rfl)
theorem g_worth (w : World) : GName (GG w) (Str.ofString "_law_worth") (.ref 65) := GG.glob (by kernel_rfl)
theorem f_worth (w : World) : FnAt (GG w) 65 := GG.fn (by kernel_rfl)
theorem g_grown (w : World) : GName (GG w) (Str.ofString "_law_grown") (.ref 72) := GG.glob (by kernel_rfl)
theorem f_grown (w : World) : FnAt (GG w) 72 := GG.fn (by kernel_rfl)
theorem g_lists (w : World) : GName (GG w) (Str.ofString "_law_lists") (.ref 79) := GG.glob (by kernel_rfl)
theorem f_lists (w : World) : FnAt (GG w) 79 := GG.fn (by kernel_rfl)
theorem g_tells (w : World) : GName (GG w) (Str.ofString "_law_tells") (.ref 86) := GG.glob (by kernel_rfl)
theorem f_tells (w : World) : FnAt (GG w) 86 := GG.fn (by kernel_rfl)
theorem g_bisR (w : World) : GName (GG w) (Str.ofString "bisect_right") (.ref 23) := GG.glob (by kernel_rfl)
theorem f_bisR (w : World) : FnAt (GG w) 23 := GG.fn (by kernel_rfl)
theorem g_bisL (w : World) : GName (GG w) (Str.ofString "bisect_left") (.ref 32) := GG.glob (by kernel_rfl)
theorem f_bisL (w : World) : FnAt (GG w) 32 := GG.fn (by kernel_rfl)
theorem b_max (w : World) : BName (GG w) (Str.ofString "max") (.builtin "max") := GG.built (by kernel_rfl) (by decide +kernel) (by decide)
theorem b_isinstance (w : World) : BName (GG w) (Str.ofString "isinstance") (.builtin "isinstance") := GG.built (by kernel_rfl) (by decide +kernel) (by decide)
theorem b_bool (w : World) : BName (GG w) (Str.ofString "bool") (.type "bool") := GG.built (by kernel_rfl) (by decide +kernel) (by decide)
end Mine
namespace Mine
local macro_rules | `(tactic| walk_at "at") => `(tactic| (with_reducible (first | exact At.head | (apply At.tail; first | exact At.head | (apply At.tail; first | exact At.head | (apply At.tail; first | exact At.head | (apply At.tail; first | exact At.head | (apply At.tail; first | exact At.head | (apply At.tail; first | exact At.head | (apply At.tail; first | exact At.head | (apply At.tail; first | exact At.head | (apply At.tail; first | exact At.head | (apply At.tail; first | exact At.head | (apply At.tail; first | exact At.head | (apply At.tail; first | exact At.head | (apply At.tail; first | exact At.head | (apply At.tail; first | exact At.head | (apply At.tail; first | exact At.head | (apply At.tail; first | exact At.head | (apply At.tail; first | exact At.head | (apply At.tail; exact At.head)))))))))))))))))))))
local macro_rules | `(tactic| walk_at "put") => `(tactic| (with_reducible (first | exact Put.head | (apply Put.tail; first | exact Put.head | (apply Put.tail; first | exact Put.head | (apply Put.tail; first | exact Put.head | (apply Put.tail; first | exact Put.head | (apply Put.tail; first | exact Put.head | (apply Put.tail; first | exact Put.head | (apply Put.tail; first | exact Put.head | (apply Put.tail; first | exact Put.head | (apply Put.tail; first | exact Put.head | (apply Put.tail; first | exact Put.head | (apply Put.tail; first | exact Put.head | (apply Put.tail; first | exact Put.head | (apply Put.tail; first | exact Put.head | (apply Put.tail; first | exact Put.head | (apply Put.tail; first | exact Put.head | (apply Put.tail; first | exact Put.head | (apply Put.tail; first | exact Put.head | (apply Put.tail; exact Put.head)))))))))))))))))))))
local macro_rules | `(tactic| walk_at "kf") => `(tactic| (kernel_rfl))
local macro_rules | `(tactic| walk_at "om") => `(tactic| (first | omega | (simp only [List.length_drop, List.length_take, List.length_cons, List.length_nil, List.length_append, List.length_replicate]; omega)))
local macro_rules | `(tactic| walk_at "il") => `(tactic| (first | exact FS.lstP hOld (by with_reducible assumption) | assumption))
local macro_rules | `(tactic| walk_at "glob") => `(tactic| (first | with_reducible exact g_MOVE _ | with_reducible exact g_CASE _ | with_reducible exact g_MAX _ | with_reducible exact g_sub _ | with_reducible exact g_lev _ | with_reducible exact g_fig _ | with_reducible exact g_text _ | with_reducible exact g_worth _ | with_reducible exact g_grown _ | with_reducible exact g_lists _ | with_reducible exact g_tells _ | with_reducible exact g_bisR _ | with_reducible exact g_bisL _))
local macro_rules | `(tactic| walk_at "bui") => `(tactic| (first | with_reducible exact b_len _ | with_reducible exact b_min _ | with_reducible exact b_range _ | with_reducible exact b_list _ | with_reducible exact b_max _ | with_reducible exact b_isinstance _ | with_reducible exact b_bool _))
local macro_rules | `(tactic| walk_at "fun") => `(tactic| (first | with_reducible exact f_sub _ | with_reducible exact f_lev _ | with_reducible exact f_fig _ | with_reducible exact f_text _ | with_reducible exact f_worth _ | with_reducible exact f_grown _ | with_reducible exact f_lists _ | with_reducible exact f_tells _ | with_reducible exact f_bisR _ | with_reducible exact f_bisL _))
local macro_rules | `(tactic| walk_at "ev") => `(tactic| (
  (with_reducible show wpAny _ _ (eval _ _) _ _ _);
  first
  | ((with_reducible show wpAny _ _ (eval (Expr.Name _ _) _) _ _ _); first
      | ((rename FS _ _ _ _ _ _ _ _ _ _ => hOld); (refine nmL hOld (by assumption) (by walk_at "at") (by walk_at "kf") ?_))
      | ((rename FS _ _ _ _ _ _ _ _ _ _ => hOld); (refine nmC hOld (by assumption) (by walk_at "at") (by walk_at "kf") ?_))
      | ((rename FS _ _ _ _ _ _ _ _ _ _ => hOld); (refine nmG (GG.st _) hOld (by assumption) (by walk_at "kf") (by walk_at "glob") ?_))
      | ((rename FS _ _ _ _ _ _ _ _ _ _ => hOld); (refine nmB (GG.st _) hOld (by assumption) (by walk_at "kf") (by walk_at "bui") ?_)))
  | ((with_reducible show wpAny _ _ (eval (Expr.Constant _ _ _) _) _ _ _); first
      | ((rename FS _ _ _ _ _ _ _ _ _ _ => hOld); (with_reducible refine cInt hOld ?_); (clear hOld); intro _ _ _)
      | ((rename FS _ _ _ _ _ _ _ _ _ _ => hOld); (with_reducible refine cStr hOld ?_); (clear hOld); intro _ _ _)
      | with_reducible refine cBool ?_
      | with_reducible refine cNone ?_)
  | ((with_reducible show wpAny _ _ (eval (Expr.BinOp _ _ _ _) _) _ _ _); refine wpAny_BinOp ?_)
  | ((with_reducible show wpAny _ _ (eval (Expr.Compare _ _ _ _) _) _ _ _); refine wpAny_Compare1 ?_)
  | ((with_reducible show wpAny _ _ (eval (Expr.UnaryOp _ _ _) _) _ _ _); refine UnaryOp_ ?_)
  | ((with_reducible show wpAny _ _ (eval (Expr.IfExp _ _ _ _) _) _ _ _); refine IfExp_ ?_)
  | ((with_reducible show wpAny _ _ (eval (Expr.BoolOp _ _ _) _) _ _ _); first
      | ((rename FS _ _ _ _ _ _ _ _ _ _ => hOld); (with_reducible refine orNone hOld (by assumption) (by walk_at "at") (by walk_at "kf") ?_); intro _ _)
      | refine BoolOp_one ?_
      | refine BoolOp_and ?_
      | refine BoolOp_or ?_)
  | ((with_reducible show wpAny _ _ (eval (Expr.List _ _) _) _ _ _); refine List_ ?_)
  | ((with_reducible show wpAny _ _ (eval (Expr.Subscript _ _ _) _) _ _ _); first
      | refine evSlice ?_
      | refine Subscript_ ?_)
  | ((with_reducible show wpAny _ _ (eval (Expr.Call (Expr.Attribute _ _ _) _ _ _) _) _ _ _); refine mCall ?_)
  | ((with_reducible show wpAny _ _ (eval (Expr.Call _ _ _ _) _) _ _ _); refine Call_ ?_)))
local macro_rules | `(tactic| walk_at "op") => `(tactic| (first
  | ((with_reducible show wpAny _ _ (binaryOp _ (Value.int _ _) (Value.int _ _)) _ _ _); first
      | ((rename FS _ _ _ _ _ _ _ _ _ _ => hOld); (with_reducible refine addI hOld ?_); (clear hOld); intro _ _ _)
      | ((rename FS _ _ _ _ _ _ _ _ _ _ => hOld); (with_reducible refine subI hOld ?_); (clear hOld); intro _ _ _)
      | ((rename FS _ _ _ _ _ _ _ _ _ _ => hOld); (with_reducible refine mulI' hOld (by omega) ?_); (clear hOld); intro _ _ _)
      | ((rename FS _ _ _ _ _ _ _ _ _ _ => hOld); (with_reducible refine modI hOld (by decide) ?_); (clear hOld); intro _ _ _)
      | ((rename FS _ _ _ _ _ _ _ _ _ _ => hOld); (with_reducible refine fdiv2 hOld ?_); (clear hOld); intro _ _ _)
      | ((rename FS _ _ _ _ _ _ _ _ _ _ => hOld); (with_reducible refine fdivI hOld (by decide) (by decide) ?_); (clear hOld); intro _ _ _))
  | ((with_reducible show wpAny _ _ (compareOp _ _ _) _ _ _); first
      | with_reducible refine eqS ?_
      | with_reducible refine eqI ?_
      | with_reducible refine ltI ?_
      | with_reducible refine gtI ?_
      | with_reducible refine leI ?_
      | with_reducible refine neI ?_
      | with_reducible refine isNN ?_
      | with_reducible refine isIN ?_
      | with_reducible refine isRN ?_)
  | ((with_reducible show wpAny _ _ (truthy _) _ _ _); first
      | with_reducible refine truB ?_
      | with_reducible refine truI ?_
      | with_reducible refine truthy_none ?_
      | ((rename FS _ _ _ _ _ _ _ _ _ _ => hOld); (with_reducible refine truS' hOld (by walk_at "om") ?_); (clear hOld); intro _ _))
  | ((with_reducible show wpAny _ _ (unaryOp UnaryOp.Not _) _ _ _); refine not_of ?_)
  | ((with_reducible show wpAny _ _ (unaryOp UnaryOp.USub _) _ _ _); ((rename FS _ _ _ _ _ _ _ _ _ _ => hOld); (with_reducible refine negI hOld ?_); (clear hOld); intro _ _ _))
  | ((with_reducible show wpAny _ _ (inplaceOp _ _ _) _ _ _); first
      | ((rename FS _ _ _ _ _ _ _ _ _ _ => hOld); (with_reducible refine iaddI hOld ?_); (clear hOld); intro _ _ _)
      | ((rename FS _ _ _ _ _ _ _ _ _ _ => hOld); (with_reducible refine isubI hOld ?_); (clear hOld); intro _ _ _))))
local macro_rules | `(tactic| walk_at "call") => `(tactic| (first
  | ((with_reducible show wpAny _ _ (callWith _ _ _ _ _) _ _ _); first
      | refine cwB ?_
      | refine cwT ?_
      | ((rename FS _ _ _ _ _ _ _ _ _ _ => hOld); (refine cwF hOld (by walk_at "fun") ?_))
      | refine callWith_method0 ?_
      | refine callWith_method1 ?_)
  | ((with_reducible show wpAny _ _ (spliced _) _ _ _); first
      | refine spliced_none ?_
      | refine spliced_more ?_)
  | ((with_reducible show wpAny _ _ (evalPart none _) _ _ _); refine wpAny_evalPart_none ?_)
  | ((with_reducible show wpAny _ _ (evalPart (some _) _) _ _ _); refine wpAny_evalPart_some ?_)
  | ((with_reducible show wpAny _ _ (call (Value.builtin _) _) _ _ _); first
      | ((rename FS _ _ _ _ _ _ _ _ _ _ => hOld); (with_reducible refine lowC hOld (by assumption) ?_); (clear hOld); intro _ _ _)
      | ((rename FS _ _ _ _ _ _ _ _ _ _ => hOld); (with_reducible refine lenL' hOld (FS.base hOld (by assumption)) (by walk_at "om") ?_); (clear hOld); intro _ _ _)
      | ((rename FS _ _ _ _ _ _ _ _ _ _ => hOld); (with_reducible refine lenS' hOld (by walk_at "om") ?_); (clear hOld); intro _ _ _)
      | ((rename FS _ _ _ _ _ _ _ _ _ _ => hOld); (with_reducible refine min2 hOld (Room.handled (by assumption)) ?_); (clear hOld); intro _ _ _)
      | ((rename FS _ _ _ _ _ _ _ _ _ _ => hOld); (with_reducible refine max2 hOld (Room.handled (by assumption)) ?_); (clear hOld); intro _ _ _)
      | ((rename FS _ _ _ _ _ _ _ _ _ _ => hOld); (with_reducible refine isBool hOld ?_); (clear hOld); intro _ _)
      | ((rename FS _ _ _ _ _ _ _ _ _ _ => hOld); (with_reducible refine absI hOld ?_); (clear hOld); intro _ _ _)
      | ((rename FS _ _ _ _ _ _ _ _ _ _ => hOld); (with_reducible refine max3 hOld (Room.handled (by assumption)) ?_); (clear hOld); intro _ _ _))
  | ((with_reducible show wpAny _ _ (call (Value.type _) _) _ _ _); first
      | ((rename FS _ _ _ _ _ _ _ _ _ _ => hOld); (with_reducible refine rng1 hOld ?_); (clear hOld); intro _ _ _ _ _ _ _)
      | ((rename FS _ _ _ _ _ _ _ _ _ _ => hOld); (with_reducible refine rng2 hOld ?_); (clear hOld); intro _ _ _ _ _ _ _)
      | ((rename FS _ _ _ _ _ _ _ _ _ _ => hOld); (with_reducible refine rng3 hOld (by decide) (by decide) ?_); (clear hOld); intro _ _ _ _ _ _ _))
  | ((with_reducible show wpAny _ _ (sliceTree _ _ (Value.str _ _) _ _) _ _ _); first
      | ((rename FS _ _ _ _ _ _ _ _ _ _ => hOld); (with_reducible refine slFromN hOld (by walk_at "om") (by walk_at "om") ?_); (clear hOld); intro _ _ _)
      | ((rename FS _ _ _ _ _ _ _ _ _ _ => hOld); (with_reducible refine slToN hOld (by walk_at "om") (by walk_at "om") ?_); (clear hOld); intro _ _ _)
      | ((rename FS _ _ _ _ _ _ _ _ _ _ => hOld); (with_reducible refine slOrN hOld (by assumption) (by walk_at "om") (by walk_at "om") ?_); (clear hOld); intro _ _ _)
      | ((rename FS _ _ _ _ _ _ _ _ _ _ => hOld); (with_reducible refine slFrom hOld (by walk_at "om") (by walk_at "om") (by walk_at "om") ?_); (clear hOld); intro _ _ _)
      | ((rename FS _ _ _ _ _ _ _ _ _ _ => hOld); (with_reducible refine slTo hOld (by walk_at "om") (by walk_at "om") (by walk_at "om") ?_); (clear hOld); intro _ _ _))
  | ((with_reducible show wpAny _ _ (newList _) _ _ _); ((rename FS _ _ _ _ _ _ _ _ _ _ => hOld); (with_reducible refine newL' hOld (by walk_at "om") ?_); (clear hOld); intro _ _ _))
  | ((with_reducible show wpAny _ _ (getMethod _ _ _) _ _ _); first
      | (with_reducible refine gmJoin ?_; dsimp only)
      | (with_reducible refine gmLower ?_; dsimp only))))
local macro_rules | `(tactic| walk_at "st") => `(tactic| (first
  | ((with_reducible show SeqQ _ _ _ _ _ _ _ _); first | with_reducible refine seqNext ?_ | with_reducible refine seqRet ?_)
  | ((with_reducible show RetQ _ _ _); with_reducible refine retRet ?_)
  | (with_reducible refine turnRet ?_)
  | (with_reducible refine forRet ?_)
  | (with_reducible refine cutRet ?_)
  | ((with_reducible show wpAny _ _ (execs [] _) _ _ _); with_reducible refine exNil ?_)
  | ((with_reducible show wpAny _ _ (execs (_ :: _) _) _ _ _); with_reducible refine exCons ?_)
  | ((with_reducible show wpAny _ _ (exec (Stmt.Assign [Expr.Name _ _] _ _) _) _ _ _); refine exAssign ?_)
  | ((with_reducible show wpAny _ _ (exec (Stmt.Assign [Expr.Name _ _, Expr.Name _ _] _ _) _) _ _ _); refine wpAny_Assign_two ?_)
  | ((with_reducible show wpAny _ _ (exec (Stmt.Assign [Expr.Subscript _ _ _] _ _) _) _ _ _); refine wpAny_Assign_Subscript ?_)
  | ((with_reducible show wpAny _ _ (assign (Expr.Name _ _) _ _) _ _ _); refine wpAny_assign_Name ?_)
  | ((with_reducible show wpAny _ _ (exec (Stmt.AugAssign (Expr.Name _ _) _ _ _) _) _ _ _); refine wpAny_AugAssign_Name ?_)
  | ((with_reducible show wpAny _ _ (exec (Stmt.If _ _ _ _) _) _ _ _); refine wpAny_If ?_)
  | ((with_reducible show wpAny _ _ (exec (Stmt.Return (some _) _) _) _ _ _); refine wpAny_Return_some ?_)
  | ((with_reducible show wpAny _ _ (exec (Stmt.Expr _ _) _) _ _ _); refine exExpr (by assumption) ?_)
  | ((with_reducible show wpAny _ _ (exec (Stmt.For _ _ _ _ _) _) _ _ _); refine wpAny_For ?_)
  | ((with_reducible show wpAny _ _ (storeName _ _ _) _ _ _); first
      | ((rename FS _ _ _ _ _ _ _ _ _ _ => hOld); (refine stL hOld (by assumption) (by walk_at "put") (by walk_at "kf") ?_); (clear hOld); intro _ _)
      | ((rename FS _ _ _ _ _ _ _ _ _ _ => hOld); (refine stC hOld (by assumption) (by walk_at "put") (by walk_at "kf") ?_); (clear hOld); intro _ _))
  | ((with_reducible show wpAny _ _ (loadName _ _) _ _ _); first
      | ((rename FS _ _ _ _ _ _ _ _ _ _ => hOld); (refine ldL hOld (by assumption) (by walk_at "at") (by walk_at "kf") ?_))
      | ((rename FS _ _ _ _ _ _ _ _ _ _ => hOld); (refine ldC hOld (by assumption) (by walk_at "at") (by walk_at "kf") ?_)))))
local macro_rules | `(tactic| walk_at "tr") => `(tactic| (
  (with_reducible show wpAny _ _ (isTrue _ _ _) _ _ _);
  first
      | with_reducible refine isTrue_and ?_
      | with_reducible refine isTrue_or ?_
      | with_reducible refine isTrue_and_nil ?_
      | with_reducible refine isTrue_or_nil ?_
      | with_reducible refine isTrue_not ?_
      | refine wpAny_isTrue_Compare1 ?_
      | refine isTrue_plain ?_))
local macro_rules | `(tactic| walk_at "go") => `(tactic| (first
  | ((with_reducible show wpAny _ _ _ _ _ _); first | walk_at "ev" | walk_at "op" | walk_at "call" | walk_at "st" | walk_at "tr")
  | walk_at "st"
  | ((with_reducible show And (GG _ _) _); (rename FS _ _ _ _ _ _ _ _ _ _ => hOld); (refine And.intro (FS.gg (GG.st _) hOld) ?_))
  | ((with_reducible show (if _ then _ else _)); first | (with_reducible refine iteT ?_) | (with_reducible refine iteF ?_) | (with_reducible refine iteD (fun _ => ?_) (fun _ => ?_)) | (with_reducible refine iteB (fun _ => ?_) (fun _ => ?_)))))
local macro_rules | `(tactic| walk_at "gs") => `(tactic| ((fail_if_success (with_reducible show wpAny _ _ (exec (Stmt.If _ _ _ _) _) _ _ _)); walk_at "go"))
local macro_rules | `(tactic| walk_at "gw") => `(tactic| ((fail_if_success (with_reducible show wpAny _ _ (execs (Stmt.If _ [Stmt.Assign [Expr.Tuple _ _ _] _ _] _ _ :: _) _) _ _ _)); walk_at "go"))
variable {w : World} {prog : Program}
theorem sub_call {A : Around} {s : Shared} {x y : Nat} {t u : Tok} {Q : Value → Shared → Prop} (hA : Room A 1) (g : GG w s.heap) (hx : Sg x) (hy : Sg y) (h : ∀ t s', Keeps s s' → Q (.int (subc x y) t) s') :
    wpAny (model prog w) A (call (.ref 39) [.str (S [x]) t, .str (S [y]) u]) Q (fun _ _ => False) s := by
  refine callP (G := GG w) [Str.ofString "ch_a", Str.ofString "ch_b"] [.str (S [x]) t, .str (S [y]) u] [] [] [Str.ofString "ch_a", Str.ofString "ch_b"] [some (.str (S [x]) t), some (.str (S [y]) u)] [] _ hA (g.1 39 _ rfl) rfl g g.2.1 ⟨38, _, _, _, rfl, g.1 38 _ rfl, rfl, rfl⟩ rfl rfl (fun Q' E' q => wpAny_pure q) (by kernel_rfl) rfl (by kernel_rfl) (by kernel_rfl) (by kernel_rfl) (by kernel_rfl) ?_
  intro env s₁ hE hR H
  repeat' (walk_at "go")
  all_goals (refine endI h (by assumption) ?_; simp_all [subc])
theorem subc_nonneg (x y : Nat) : 0 ≤ subc x y := by unfold subc; split <;> (try split) <;> decide
theorem subc_le (x y : Nat) : subc x y ≤ 2 := by unfold subc; split <;> (try split) <;> decide
theorem subc_self (x : Nat) : subc x x = 0 := by simp [subc]
theorem subc_comm (x y : Nat) : subc x y = subc y x := by
  unfold subc
  by_cases h : x = y
  · subst h; rfl
  · have h2 : ¬ y = x := fun e => h e.symm
    by_cases h' : low x = low y
    · simp [h, h2, h']
    · have h3 : ¬ low y = low x := fun e => h' e.symm
      simp [h, h2, h', h3]
theorem drop_back {l : List Nat} {i x : Nat} (h : l[i]? = some x) : l.drop i = x :: l.drop (i + 1) := by
  obtain ⟨hi, e⟩ := List.getElem?_eq_some_iff.mp h
  rw [List.drop_eq_getElem_cons hi, e]
/-- what _levenshtein_distance tells -/
def LevOk (a b : List Nat) (mc r : Int) : Prop := r = dist subc a b ∨ (mc < dist subc a b ∧ r = mc + 1)
theorem lev_call {A : Around} {s : Shared} {a b : List Nat} {mc : Int} {t u v : Tok} {Q : Value → Shared → Prop} (hA : Room A 2) (g : GG w s.heap) (ha : ∀ x ∈ a, Sg x) (hb : ∀ x ∈ b, Sg x) (la : a.length ≤ 40) (lb : b.length ≤ 40)
    (h : ∀ r t s', LevOk a b mc r → Keeps s s' → Q (.int r t) s') :
    wpAny (model prog w) A (call (.ref 46) [.str (S a) t, .str (S b) u, .int mc v]) Q (fun _ _ => False) s := by
  refine callP (G := GG w) [Str.ofString "a", Str.ofString "b", Str.ofString "max_cost"] [.str (S a) t, .str (S b) u, .int mc v] [Str.ofString "pre", Str.ofString "post", Str.ofString "row", Str.ofString "result", Str.ofString "bindex", Str.ofString "bchar", Str.ofString "distance", Str.ofString "minimum", Str.ofString "index", Str.ofString "substitute", Str.ofString "insert_delete"] [] [Str.ofString "a", Str.ofString "b", Str.ofString "max_cost", Str.ofString "pre", Str.ofString "post", Str.ofString "row", Str.ofString "result", Str.ofString "bindex", Str.ofString "bchar", Str.ofString "distance", Str.ofString "minimum", Str.ofString "index", Str.ofString "substitute", Str.ofString "insert_delete"] [some (.str (S a) t), some (.str (S b) u), some (.int mc v), none, none, none, none, none, none, none, none, none, none, none] [] _ hA (g.1 46 _ rfl) rfl g g.2.1 ⟨45, _, _, _, rfl, g.1 45 _ rfl, rfl, rfl⟩ rfl rfl (fun Q' E' q => wpAny_pure q) (by kernel_rfl) rfl (by kernel_rfl) (by kernel_rfl) (by kernel_rfl) (by kernel_rfl) ?_
  intro env s₁ hE hR H
  dsimp only at hE

  repeat' (walk_at "go")
  · refine h _ _ _ (.inl ?_) (FS.kept (by assumption))
    have e : a = b := by assumption
    subst e
    exact (dist_self subc subc_nonneg subc_self a).symm
  have hne : ¬ a = b := by assumption
  refine whileX (by assumption) (fun k vs cvs led => ∃ (p : Nat) (tp : Tok), vs = [some (.str (S a) t), some (.str (S b) u), some (.int mc v), some (.int p tp), none, none, none, none, none, none, none, none, none, none] ∧ cvs = [] ∧ led = [] ∧ p ≤ a.length ∧ p ≤ b.length ∧ a.take p = b.take p ∧ k = a.length - p)
    (fun vs cvs led => ∃ (p : Nat) (tp : Tok), vs = [some (.str (S a) t), some (.str (S b) u), some (.int mc v), some (.int p tp), none, none, none, none, none, none, none, none, none, none] ∧ cvs = [] ∧ led = [] ∧ p ≤ a.length ∧ p ≤ b.length ∧ a.take p = b.take p) a.length
    ⟨0, _, rfl, rfl, rfl, Nat.zero_le _, Nat.zero_le _, rfl, rfl⟩ ?_ ?_
  · rintro k _ _ _ s₂ ⟨p, tp, rfl, rfl, rfl, hpa, hpb, hpp, rfl⟩ H₂
    repeat' (walk_at "go")
    · have e1 : (!(a.drop p).isEmpty) = true := by assumption
      have e2 : (!(b.drop p).isEmpty) = true := by assumption
      simp at e1 e2
      obtain ⟨x, hx⟩ := get_some (l := a) (i := p) (by omega)
      obtain ⟨y, hy⟩ := get_some (l := b) (i := p) (by omega)
      rename FS _ _ _ _ _ _ _ _ _ _ => hOld; refine idxS hOld (by constructor <;> omega) (j := p) (by rw [if_neg (by omega)]) hx rfl ?_; clear hOld; intro _ _ _
      repeat' (walk_at "go")
      rename FS _ _ _ _ _ _ _ _ _ _ => hOld; refine idxS hOld (by constructor <;> omega) (j := p) (by rw [if_neg (by omega)]) hy rfl ?_; clear hOld; intro _ _ _
      repeat' (walk_at "go")
      · refine turnNext (a.length - (p + 1)) (by assumption) (by omega) ⟨p + 1, _, by congr, rfl, rfl, by omega, by omega, ?_, rfl⟩
        have e : [x] = [y] := by assumption
        rw [take_snoc hx, take_snoc hy, hpp, e]
      · exact told (by assumption) ⟨p, tp, rfl, rfl, rfl, hpa, hpb, hpp⟩
    all_goals exact told (by assumption) ⟨p, tp, rfl, rfl, rfl, hpa, hpb, hpp⟩
  rintro _ _ _ s₂ ⟨p, tp, rfl, rfl, rfl, hpa, hpb, hpp⟩ H₂
  have hD : dist subc a b = dist subc (a.drop p) (b.drop p) := by
    have := dist_pre subc subc_nonneg subc_self (a.take p) (a.drop p) (b.drop p)
    rw [List.take_append_drop, hpp, List.take_append_drop] at this
    exact this
  have ha1 : ∀ x ∈ a.drop p, Sg x := fun x hx => ha x (List.mem_of_mem_drop hx)
  have hb1 : ∀ x ∈ b.drop p, Sg x := fun x hx => hb x (List.mem_of_mem_drop hx)
  have la1 : (a.drop p).length ≤ 40 := by rw [List.length_drop]; omega
  have lb1 : (b.drop p).length ≤ 40 := by rw [List.length_drop]; omega
  repeat' (walk_at "go")
  rename_i H₃
  generalize a.drop p = a1 at hD ha1 la1 H₃
  generalize b.drop p = b1 at hD hb1 lb1 H₃
  refine whileX (by assumption) (fun k vs cvs led => ∃ (q : Nat) (tq : Tok) (ta tb : Tok), vs = [some (.str (S a1) ta), some (.str (S b1) tb), some (.int mc v), some (.int p tp), some (.int (-(q : Int)) tq), none, none, none, none, none, none, none, none, none] ∧ cvs = [] ∧ led = [] ∧ q ≤ a1.length ∧ q ≤ b1.length ∧ a1.drop (a1.length - q) = b1.drop (b1.length - q) ∧ k = a1.length - q)
    (fun vs cvs led => ∃ (q : Nat) (tq ta tb : Tok), vs = [some (.str (S a1) ta), some (.str (S b1) tb), some (.int mc v), some (.int p tp), some (.int (-(q : Int)) tq), none, none, none, none, none, none, none, none, none] ∧ cvs = [] ∧ led = [] ∧ q ≤ a1.length ∧ q ≤ b1.length ∧ a1.drop (a1.length - q) = b1.drop (b1.length - q)) a1.length
    ⟨0, _, _, _, rfl, rfl, rfl, Nat.zero_le _, Nat.zero_le _, by simp, rfl⟩ ?_ ?_
  · rintro k _ _ _ s₂ ⟨q, tq, ta, tb, rfl, rfl, rfl, hqa, hqb, hqq, rfl⟩ H₂
    repeat' (walk_at "go")
    · have e1 : (!(a1.take (a1.length - q)).isEmpty) = true := by assumption
      have e2 : (!(b1.take (b1.length - q)).isEmpty) = true := by assumption
      have f1 : q < a1.length := by
        rcases Nat.lt_or_ge q a1.length with hlt | hge
        · exact hlt
        · rw [show a1.length - q = 0 by omega] at e1; simp at e1
      have f2 : q < b1.length := by
        rcases Nat.lt_or_ge q b1.length with hlt | hge
        · exact hlt
        · rw [show b1.length - q = 0 by omega] at e2; simp at e2
      obtain ⟨x, hx⟩ := get_some (l := a1) (i := a1.length - (q + 1)) (by omega)
      obtain ⟨y, hy⟩ := get_some (l := b1) (i := b1.length - (q + 1)) (by omega)
      rename FS _ _ _ _ _ _ _ _ _ _ => hOld; refine idxS hOld (by constructor <;> omega) (j := a1.length - (q + 1)) (by rw [if_pos (by omega)]; omega) hx rfl ?_; clear hOld; intro _ _ _
      repeat' (walk_at "go")
      rename FS _ _ _ _ _ _ _ _ _ _ => hOld; refine idxS hOld (by constructor <;> omega) (j := b1.length - (q + 1)) (by rw [if_pos (by omega)]; omega) hy rfl ?_; clear hOld; intro _ _ _
      repeat' (walk_at "go")
      · refine turnNext (a1.length - (q + 1)) (by assumption) (by omega) ⟨q + 1, _, _, _, by rw [show (-(q : Int) - 1) = -((q + 1 : Nat) : Int) by omega], rfl, rfl, by omega, by omega, ?_, rfl⟩
        have e : [x] = [y] := by assumption
        have k1 := drop_back hx
        have k2 := drop_back hy
        rw [show a1.length - (q + 1) + 1 = a1.length - q by omega] at k1
        rw [show b1.length - (q + 1) + 1 = b1.length - q by omega] at k2
        rw [k1, k2, hqq]
        injection e with e
        rw [e]
      · exact told (by assumption) ⟨q, tq, _, _, rfl, rfl, rfl, hqa, hqb, hqq⟩
    all_goals exact told (by assumption) ⟨q, tq, _, _, rfl, rfl, rfl, hqa, hqb, hqq⟩
  rintro _ _ _ s₂ ⟨q, tq, ta, tb, rfl, rfl, rfl, hqa, hqb, hqq⟩ H₂
  have hD2 : dist subc a1 b1 = dist subc (a1.take (a1.length - q)) (b1.take (b1.length - q)) := by
    have := dist_post subc subc_nonneg subc_self (a1.drop (a1.length - q)) (a1.take (a1.length - q)) (b1.take (b1.length - q))
    rw [List.take_append_drop, hqq, List.take_append_drop] at this
    exact this
  rw [hD2] at hD
  have ha2 : ∀ x ∈ a1.take (a1.length - q), Sg x := fun x hx => ha1 x (List.mem_of_mem_take hx)
  have hb2 : ∀ x ∈ b1.take (b1.length - q), Sg x := fun x hx => hb1 x (List.mem_of_mem_take hx)
  have la2 : (a1.take (a1.length - q)).length ≤ 40 := by rw [List.length_take]; omega
  have lb2 : (b1.take (b1.length - q)).length ≤ 40 := by rw [List.length_take]; omega
  clear hD2
  repeat' (walk_at "gs")
  rename_i H₄
  generalize a1.take (a1.length - q) = a2 at hD ha2 la2 H₄
  generalize b1.take (b1.length - q) = b2 at hD hb2 lb2 H₄
  clear hqa hqb hqq la1 lb1 ha1 hb1 hpa hpb hpp
  repeat' (walk_at "gw")
  · refine h _ _ _ (.inl ?_) (FS.kept (by assumption))
    have e : (!!a2.isEmpty) = true := by assumption
    have e' : a2 = [] := by simpa using e
    rw [hD, e', dist_nil_left]; simp
  · refine h _ _ _ (.inl ?_) (FS.kept (by assumption))
    have e : (!!b2.isEmpty) = true := by assumption
    have e' : b2 = [] := by simpa using e
    rw [hD, e', dist_nil_right]; simp
  · exfalso; omega
  · exfalso; omega
  have na : a2 ≠ [] := by
    have e : (!!a2.isEmpty) = false := by assumption
    simpa using e
  have nb : b2 ≠ [] := by
    have e : (!!b2.isEmpty) = false := by assumption
    simpa using e
  have pa : 0 < a2.length := List.length_pos_iff.mpr na
  have pb : 0 < b2.length := List.length_pos_iff.mpr nb
  refine exCut (by assumption) (fun vs cvs led => ∃ (a3 b3 : List Nat) (ta tb : Tok), vs = [some (.str (S a3) ta), some (.str (S b3) tb), some (.int mc v), some (.int p tp), some (.int (-(q : Int)) tq), none, none, none, none, none, none, none, none, none] ∧ cvs = [] ∧ led = [] ∧ dist subc a b = dist subc a3 b3 ∧ (∀ x ∈ a3, Sg x) ∧ (∀ x ∈ b3, Sg x) ∧ 0 < a3.length ∧ a3.length ≤ b3.length ∧ b3.length ≤ 40) ?_ ?_
  · repeat' (walk_at "go")
    · refine swap2 (by assumption) hE hR.handled (by walk_at "at") (by walk_at "at") (by walk_at "put") (by walk_at "put") (by kernel_rfl) (by kernel_rfl) (by decide) rfl ?_; intro _ _
      repeat' (walk_at "go")
      exact cutNext (by assumption) ⟨b2, a2, _, _, rfl, rfl, rfl, hD.trans (dist_swap subc subc_comm _ _), hb2, ha2, pb, by omega, la2⟩
    · exact cutNext (by assumption) ⟨a2, b2, _, _, rfl, rfl, rfl, hD, ha2, hb2, pa, by omega, lb2⟩
  rintro _ _ _ s₃ ⟨a3, b3, ta3, tb3, rfl, rfl, rfl, hD3, ha3, hb3, pa3, hab3, lb3⟩ H₅
  clear hD ha2 hb2 la2 lb2 na nb pa pb
  repeat' (walk_at "go")
  · refine h _ _ _ (.inr ⟨?_, rfl⟩) (FS.kept (by assumption))
    have := dist_len subc subc_nonneg a3 b3
    rw [hD3]
    omega
  have hs2 := small_two ⟨a3.length, by omega⟩
  refine listRange (by assumption) hR.handled (by assumption) hs2.1 a3.length hs2.2 (by omega) ?_
  rename_i H₆ hr₆
  clear H₆ hr₆
  intro D ys s₆ H₆ hys hyt
  have hys0 : IntsAre ys (rowm subc a3 b3 0 0) := by
    rw [rowm_zero]
    refine ints_of_get ys _ (by rw [hys, rowv_len]) fun k m hm => ?_
    obtain ⟨hk, rfl⟩ := rowv_zero subc a3 b3 hm
    exact hyt k hk
  repeat' (walk_at "go")
  rename_i H₇ hr₇
  refine forX (led := [(D, PlO ys)]) [] hE hR H₇ hr₇ b3.length (small_n (by omega)).1 (small_n (by omega)).2
    (fun j vs cvs led => ∃ (P : Obj → Prop) (xs : List Value) (tr : Tok) (o1 o2 o3 o4 o5 o6 o7 : Option Value), vs = [some (.str (S a3) ta3), some (.str (S b3) tb3), some (.int mc v), some (.int p tp), some (.int (-(q : Int)) tq), some (.ref D), some (.int (if j = 0 then 0 else dd subc a3 b3 a3.length j) tr), o1, o2, o3, o4, o5, o6, o7] ∧ cvs = [] ∧ led = [(D, P)] ∧ (∀ o, P o → LstO xs o) ∧ IntsAre xs (rowm subc a3 b3 j 0))
    ⟨_, ys, _, _, _, _, _, _, _, _, rfl, rfl, rfl, fun o ho => ho.lst, hys0⟩ (by kernel_rfl) ?_ ?_
  · rintro j tj _ _ _ hj ⟨P, xs, tr, o1, o2, o3, o4, o5, o6, o7, rfl, rfl, rfl, hP, hxs⟩
    refine ⟨_, by walk_at "put", fun hid s₈ H₈ => ?_⟩
    clear H₇ hr₇
    simp only [Int.zero_add, Int.mul_one] at H₈
    obtain ⟨y, hy⟩ := get_some (l := b3) (i := j) hj
    have hSy : Sg y := hb3 y (List.mem_of_getElem? hy)
    repeat' (walk_at "go")
    rename FS _ _ _ _ _ _ _ _ _ _ => hOld; refine idxS hOld (by constructor <;> omega) (j := j) (by rw [if_neg (by omega)]) hy rfl ?_; clear hOld; intro _ _ _
    repeat' (walk_at "go")
    rename_i H₉ hr₉
    refine forX (led := [(D, P)]) hid hE hR H₉ hr₉ a3.length (small_n (by omega)).1 (small_n (by omega)).2
      (fun i vs cvs led => ∃ (P : Obj → Prop) (xs : List Value) (res mn : Int) (t1 t2 t3 t4 t5 : Tok) (o1 o2 o3 : Option Value), vs = [some (.str (S a3) ta3), some (.str (S b3) tb3), some (.int mc v), some (.int p tp), some (.int (-(q : Int)) tq), some (.ref D), some (.int res t1), some (.int (j : Int) t2), some (.str (S [y]) t3), some (.int (dd subc a3 b3 i j) t4), some (.int mn t5), o1, o2, o3] ∧ cvs = [] ∧ led = [(D, P)] ∧ (∀ o, P o → LstO xs o) ∧ IntsAre xs (rowm subc a3 b3 j i) ∧ (res = if i = 0 then 2 * (j : Int) else dd subc a3 b3 i (j + 1)) ∧ (∀ k, 1 ≤ k → k ≤ i → mn ≤ dd subc a3 b3 k (j + 1)))
      ⟨P, xs, (j : Int) * 2, _, _, _, _, _, _, _, _, _, by rw [dd_zero_left subc a3 b3 j (by omega), Int.mul_comm], rfl, rfl, hP, hxs, by rw [if_pos rfl, Int.mul_comm], fun k h1 h2 => by omega⟩ (by kernel_rfl) ?_ ?_
    · rintro i ti _ _ _ hi ⟨P, xs, res, mn, t1, t2, t3, t4, t5, o1, o2, o3, rfl, rfl, rfl, hP, hxs, hres, hmn⟩
      refine ⟨_, by walk_at "put", fun hid s₈ H₈ => ?_⟩
      clear H₉ hr₉
      simp only [Int.zero_add, Int.mul_one] at H₈
      obtain ⟨x, hx⟩ := get_some (l := a3) (i := i) hi
      have hSx : Sg x := ha3 x (List.mem_of_getElem? hx)
      repeat' (walk_at "go")
      rename FS _ _ _ _ _ _ _ _ _ _ => hOld; refine idxS hOld (by constructor <;> omega) (j := i) (by rw [if_neg (by omega)]) hx rfl ?_; clear hOld; intro _ _ _
      repeat' (walk_at "go")
      rename FS _ _ _ _ _ _ _ _ _ _ => hOld
      refine sub_call hR (hOld.gg (GG.st _)) hSy hSx ?_
      intro t9 s9 k9
      have H9 := hOld.keeps k9
      clear hOld k9
      rw [subc_comm y x]
      repeat' (walk_at "go")
      rename FS _ _ _ _ _ _ _ _ _ _ => hOld
      refine idxL' (hOld.lstQ (List.mem_cons_self) hP) hxs (by omega) (rowm_get subc a3 b3 hi) rfl ?_
      intro u9
      repeat' (walk_at "go")
      have hm := dd_step subc a3 b3 subc_le hx hy hres
      have hlen : xs.length = a3.length := by rw [hxs.length, rowm_len]
      rename FS _ _ _ _ _ _ _ _ _ _ => hOld
      refine setL' hOld (i := 0) rfl hP (by omega) (by omega) ?_
      clear hOld; intro s10 H10
      rw [hm] at H10
      have hxs' : ∀ t, IntsAre (xs.set i (.int (dd subc a3 b3 (i + 1) (j + 1)) t)) (rowm subc a3 b3 j (i + 1)) := fun t => by
        have := ints_set hxs i (dd subc a3 b3 (i + 1) (j + 1)) t
        rwa [rowm_set subc a3 b3 hi] at this
      repeat' (walk_at "go")
      · refine forNext [(D, LstO _)] (by assumption) ⟨_, _, _, _, _, _, _, _, _, _, _, _, rfl, rfl, rfl, fun o ho => ho, hxs' _, by rw [if_neg (by omega)], fun k h1 h2 => ?_⟩
        by_cases hk : k = i + 1
        · subst hk; exact Int.le_refl _
        · have := hmn k h1 (by omega)
          omega
      · refine forNext [(D, LstO _)] (by assumption) ⟨_, _, _, _, _, _, _, _, _, _, _, _, rfl, rfl, rfl, fun o ho => ho, hxs' _, by rw [if_neg (by omega)], fun k h1 h2 => ?_⟩
        by_cases hk : k = i + 1
        · subst hk; omega
        · exact hmn k h1 (by omega)
    · rintro _ _ _ s₈ ⟨P, xs, res, mn, t1, t2, t3, t4, t5, o1, o2, o3, rfl, rfl, rfl, hP, hxs, hres, hmn⟩ H₈
      clear H₉ hr₉
      rw [if_neg (by omega)] at hres
      rw [rowm_last, ← rowm_zero] at hxs
      repeat' (walk_at "go")
      · refine h _ _ _ (.inr ⟨?_, rfl⟩) (FS.kept (by assumption))
        have hmc : mc < mn := by assumption
        have := dd_early subc a3 b3 subc_nonneg subc_le (t := mc + 1) pa3 hj (fun k h1 h2 => by have := hmn k h1 h2; omega)
        rw [hD3]; omega
      · refine forNext [(D, P)] (by assumption) ⟨P, xs, _, _, _, _, _, _, _, _, by rw [if_neg (by omega), ← hres], rfl, rfl, hP, hxs⟩
  · rintro _ _ _ s₈ ⟨P, xs, tr, o1, o2, o3, o4, o5, o6, o7, rfl, rfl, rfl, hP, hxs⟩ H₈
    repeat' (walk_at "go")
    refine h _ _ _ (.inl ?_) (FS.kept (by assumption))
    rw [if_neg (by omega), dd_whole, hD3]
def bisROk (ms : List Int) (x : Int) (lo hi r : Nat) : Prop := lo ≤ r ∧ r ≤ hi ∧ (∀ (k : Nat) (m : Int), lo ≤ k → k < r → ms[k]? = some m → m ≤ x) ∧ (∀ (k : Nat) (m : Int), r ≤ k → k < hi → ms[k]? = some m → x < m)
theorem bisR_call {A : Around} {s : Shared} {l : Addr} {xs : List Value} {ms : List Int} {x : Int} {t : Tok} {Q : Value → Shared → Prop} (hA : Room A 1) (g : GG w s.heap) (hl : s.heap.IsList l xs.toArray) (hi : IntsAre xs ms) (hn : ms.length ≤ 900)
    (hs : ∀ (i j : Nat) (m m' : Int), i ≤ j → ms[i]? = some m → ms[j]? = some m' → m ≤ m') (h : ∀ (r : Nat) t s', bisROk ms x 0 ms.length r → Keeps s s' → Q (.int r t) s') :
    wpAny (model prog w) A (call (.ref 23) [.ref l, .int x t]) Q (fun _ _ => False) s := by
  refine callP (G := GG w) [Str.ofString "a", Str.ofString "x", Str.ofString "lo", Str.ofString "hi", Str.ofString "key"] [.ref l, .int x t, .int 0 189, .none, .none] [Str.ofString "mid"] [] [Str.ofString "a", Str.ofString "x", Str.ofString "lo", Str.ofString "hi", Str.ofString "key", Str.ofString "mid"] [some (.ref l), some (.int x t), some (.int 0 189), some (.none), some (.none), none] [] _ hA (g.1 23 _ rfl) rfl g g.2.1 ⟨22, _, _, _, rfl, g.1 22 _ rfl, rfl, rfl⟩ rfl rfl (fun Q' E' q => kp_binds g.1 (fun _ => by kernel_rfl) _ _ _ _ q) (by kernel_rfl) rfl (by kernel_rfl) (by kernel_rfl) (by kernel_rfl) (by kernel_rfl) ?_
  intro env s₁ hE hR H
  dsimp only at hE
  have hlen : xs.length = ms.length := hi.length
  repeat' (walk_at "go")
  · exfalso; omega
  refine whileX (by assumption) (fun k vs cvs led => ∃ (lo hi' : Nat) (t1 t2 : Tok) (o : Option Value), vs = [some (.ref l), some (.int x t), some (.int (lo : Int) t1), some (.int (hi' : Int) t2), some .none, o] ∧ cvs = [] ∧ led = [] ∧ lo ≤ hi' ∧ hi' ≤ ms.length ∧ (∀ (k : Nat) (m : Int), k < lo → ms[k]? = some m → m ≤ x) ∧ (∀ (k : Nat) (m : Int), hi' ≤ k → k < ms.length → ms[k]? = some m → x < m) ∧ k = hi' - lo)
    (fun vs cvs led => ∃ (lo : Nat) (t1 t2 : Tok) (o : Option Value), vs = [some (.ref l), some (.int x t), some (.int (lo : Int) t1), some (.int (lo : Int) t2), some .none, o] ∧ cvs = [] ∧ led = [] ∧ bisROk ms x 0 ms.length lo) ms.length
    ⟨0, ms.length, _, _, _, by rw [← hlen]; rfl, rfl, rfl, Nat.zero_le _, Nat.le_refl _, fun k m hk => by omega, fun k m h1 h2 => by omega, rfl⟩ ?_ ?_
  · rintro k _ _ _ s₂ ⟨lo, hi', t1, t2, o, rfl, rfl, rfl, hlh, hhn, hlo, hhi, rfl⟩ H₂
    repeat' (walk_at "go")
    · have hlt : lo < hi' := by have : (lo : Int) < (hi' : Int) := by assumption
                                omega
      have hmid : (lo + hi') / 2 < ms.length := by omega
      have hm' : ms[(lo + hi') / 2]? = some ms[(lo + hi') / 2] := List.getElem?_eq_getElem hmid
      generalize hmm : ms[(lo + hi') / 2] = mm at hm'
      rename FS _ _ _ _ _ _ _ _ _ _ => hOld
      refine idxL' (hOld.base hl) hi (by omega) hm' rfl ?_
      intro u9
      repeat' (walk_at "go")
      · have hc : x < mm := by assumption
        refine turnNext ((lo + hi') / 2 - lo) (by assumption) (by omega) ⟨lo, (lo + hi') / 2, _, _, _, rfl, rfl, rfl, by omega, by omega, hlo, fun k m h1 h2 hk => ?_, rfl⟩
        have := hs _ _ _ _ h1 hm' hk
        omega
      · have hc : ¬ x < mm := by assumption
        refine turnNext (hi' - ((lo + hi') / 2 + 1)) (by assumption) (by omega) ⟨(lo + hi') / 2 + 1, hi', _, _, _, rfl, rfl, rfl, by omega, by omega, fun k m h1 hk => ?_, hhi, rfl⟩
        have := hs _ _ _ _ (Nat.le_of_lt_succ h1) hk hm'
        omega
    · exact told (by assumption) ⟨lo, t1, _, _, by rw [show hi' = lo by omega], rfl, rfl, Nat.zero_le _, by omega, fun k m _ hk => hlo k m hk, fun k m h1 h2 => hhi k m (by omega) h2⟩
  · rintro _ _ _ s₂ ⟨lo, t1, t2, o, rfl, rfl, rfl, hok⟩ H₂
    repeat' (walk_at "go")
    exact h _ _ _ hok (FS.kept (by assumption))

def bisLOk (ms : List Int) (x : Int) (lo hi r : Nat) : Prop := lo ≤ r ∧ r ≤ hi ∧ (∀ (k : Nat) (m : Int), lo ≤ k → k < r → ms[k]? = some m → m < x) ∧ (∀ (k : Nat) (m : Int), r ≤ k → k < hi → ms[k]? = some m → x ≤ m)
theorem bisL_call {A : Around} {s : Shared} {l : Addr} {xs : List Value} {ms : List Int} {x : Int} {t : Tok} {Q : Value → Shared → Prop} (hA : Room A 1) (g : GG w s.heap) (hl : s.heap.IsList l xs.toArray) (hi : IntsAre xs ms) (hn : ms.length ≤ 900)
    (hs : ∀ (i j : Nat) (m m' : Int), i ≤ j → ms[i]? = some m → ms[j]? = some m' → m ≤ m') (h : ∀ (r : Nat) t s', bisLOk ms x 0 ms.length r → Keeps s s' → Q (.int r t) s') :
    wpAny (model prog w) A (call (.ref 32) [.ref l, .int x t]) Q (fun _ _ => False) s := by
  refine callP (G := GG w) [Str.ofString "a", Str.ofString "x", Str.ofString "lo", Str.ofString "hi", Str.ofString "key"] [.ref l, .int x t, .int 0 203, .none, .none] [Str.ofString "mid"] [] [Str.ofString "a", Str.ofString "x", Str.ofString "lo", Str.ofString "hi", Str.ofString "key", Str.ofString "mid"] [some (.ref l), some (.int x t), some (.int 0 203), some (.none), some (.none), none] [] _ hA (g.1 32 _ rfl) rfl g g.2.1 ⟨31, _, _, _, rfl, g.1 31 _ rfl, rfl, rfl⟩ rfl rfl (fun Q' E' q => kp_binds g.1 (fun _ => by kernel_rfl) _ _ _ _ q) (by kernel_rfl) rfl (by kernel_rfl) (by kernel_rfl) (by kernel_rfl) (by kernel_rfl) ?_
  intro env s₁ hE hR H
  dsimp only at hE
  have hlen : xs.length = ms.length := hi.length
  repeat' (walk_at "go")
  · exfalso; omega
  refine whileX (by assumption) (fun k vs cvs led => ∃ (lo hi' : Nat) (t1 t2 : Tok) (o : Option Value), vs = [some (.ref l), some (.int x t), some (.int (lo : Int) t1), some (.int (hi' : Int) t2), some .none, o] ∧ cvs = [] ∧ led = [] ∧ lo ≤ hi' ∧ hi' ≤ ms.length ∧ (∀ (k : Nat) (m : Int), k < lo → ms[k]? = some m → m < x) ∧ (∀ (k : Nat) (m : Int), hi' ≤ k → k < ms.length → ms[k]? = some m → x ≤ m) ∧ k = hi' - lo)
    (fun vs cvs led => ∃ (lo : Nat) (t1 t2 : Tok) (o : Option Value), vs = [some (.ref l), some (.int x t), some (.int (lo : Int) t1), some (.int (lo : Int) t2), some .none, o] ∧ cvs = [] ∧ led = [] ∧ bisLOk ms x 0 ms.length lo) ms.length
    ⟨0, ms.length, _, _, _, by rw [← hlen]; rfl, rfl, rfl, Nat.zero_le _, Nat.le_refl _, fun k m hk => by omega, fun k m h1 h2 => by omega, rfl⟩ ?_ ?_
  · rintro k _ _ _ s₂ ⟨lo, hi', t1, t2, o, rfl, rfl, rfl, hlh, hhn, hlo, hhi, rfl⟩ H₂
    repeat' (walk_at "go")
    · have hlt : lo < hi' := by have : (lo : Int) < (hi' : Int) := by assumption
                                omega
      have hmid : (lo + hi') / 2 < ms.length := by omega
      have hm' : ms[(lo + hi') / 2]? = some ms[(lo + hi') / 2] := List.getElem?_eq_getElem hmid
      generalize hmm : ms[(lo + hi') / 2] = mm at hm'
      rename FS _ _ _ _ _ _ _ _ _ _ => hOld
      refine idxL' (hOld.base hl) hi (by omega) hm' rfl ?_
      intro u9
      repeat' (walk_at "go")
      · have hc : mm < x := by assumption
        refine turnNext (hi' - ((lo + hi') / 2 + 1)) (by assumption) (by omega) ⟨(lo + hi') / 2 + 1, hi', _, _, _, rfl, rfl, rfl, by omega, by omega, fun k m h1 hk => ?_, hhi, rfl⟩
        have := hs _ _ _ _ (Nat.le_of_lt_succ h1) hk hm'
        omega
      · have hc : ¬ mm < x := by assumption
        refine turnNext ((lo + hi') / 2 - lo) (by assumption) (by omega) ⟨lo, (lo + hi') / 2, _, _, _, rfl, rfl, rfl, by omega, by omega, hlo, fun k m h1 h2 hk => ?_, rfl⟩
        have := hs _ _ _ _ h1 hm' hk
        omega
    · exact told (by assumption) ⟨lo, t1, _, _, by rw [show hi' = lo by omega], rfl, rfl, Nat.zero_le _, by omega, fun k m _ hk => hlo k m hk, fun k m h1 h2 => hhi k m (by omega) h2⟩
  · rintro _ _ _ s₂ ⟨lo, t1, t2, o, rfl, rfl, rfl, hok⟩ H₂
    repeat' (walk_at "go")
    exact h _ _ _ hok (FS.kept (by assumption))
theorem tells_call {A : Around} {s : Shared} {a b : List Nat} {due more : Int} {t u v z : Tok} {Q : Value → Shared → Prop} (hA : Room A 3) (g : GG w s.heap) (ha : ∀ x ∈ a, Sg x) (hb : ∀ x ∈ b, Sg x) (la : a.length ≤ 40) (lb : b.length ≤ 40)
    (hd : due = dist subc a b) (hm : 0 ≤ more) (h : ∀ s', Keeps s s' → Q (.bool true) s') :
    wpAny (model prog w) A (call (.ref 86) [.str (S a) t, .str (S b) u, .int due v, .int more z]) Q (fun _ _ => False) s := by
  refine callP (G := GG w) [Str.ofString "one", Str.ofString "other", Str.ofString "due", Str.ofString "more"] [.str (S a) t, .str (S b) u, .int due v, .int more z] [Str.ofString "less", Str.ofString "told"] [] [Str.ofString "one", Str.ofString "other", Str.ofString "due", Str.ofString "more", Str.ofString "less", Str.ofString "told"] [some (.str (S a) t), some (.str (S b) u), some (.int due v), some (.int more z), none, none] [] _ hA (g.1 86 _ rfl) rfl g g.2.1 ⟨85, _, _, _, rfl, g.1 85 _ rfl, rfl, rfl⟩ rfl rfl (fun Q' E' q => wpAny_pure q) (by kernel_rfl) rfl (by kernel_rfl) (by kernel_rfl) (by kernel_rfl) (by kernel_rfl) ?_
  intro env s₁ hE hR H
  dsimp only at hE
  repeat' (walk_at "go")
  rename FS _ _ _ _ _ _ _ _ _ _ => hOld
  refine lev_call hR (hOld.gg (GG.st _)) ha hb la lb ?_
  intro r t9 s9 hr k9
  have H9 := hOld.keeps k9
  clear hOld k9
  have er : r = due := by rcases hr with h | h <;> omega
  subst er
  repeat' (walk_at "go")
  rename FS _ _ _ _ _ _ _ _ _ _ => hOld
  refine lev_call hR (hOld.gg (GG.st _)) ha hb la lb ?_
  intro r' t9 s9 hr' k9
  have H9 := hOld.keeps k9
  clear hOld k9
  have er : r' = r := by rcases hr' with h | h <;> omega
  subst er
  repeat' (walk_at "go")
  · exact h _ (FS.kept (by assumption))
  all_goals (first | (exfalso; omega) | (simp_all; done))

/-- what two signs are worth -/
def letter (f : Nat) : Nat := [0, 0, 1, 1, 2, 3].getD f 0
def sgn (f : Nat) : Nat := [97, 65, 107, 75, 123, 91].getD f 97
theorem letter_get : ∀ f, f < 6 → ([0, 0, 1, 1, 2, 3] : List Int)[f]? = some (letter f : Int) := by decide
theorem worth_eq : ∀ f1, f1 < 6 → ∀ f2, f2 < 6 → subc (sgn f1) (sgn f2) = if f1 = f2 then 0 else if letter f1 = letter f2 then 1 else 2 := by decide
theorem worth_call {A : Around} {s : Shared} {f1 f2 : Nat} {t u : Tok} {Q : Value → Shared → Prop} (hA : Room A 1) (g : GG w s.heap) (h1 : f1 < 6) (h2 : f2 < 6) (h : ∀ t s', Keeps s s' → Q (.int (4 - subc (sgn f1) (sgn f2)) t) s') :
    wpAny (model prog w) A (call (.ref 65) [.int (f1 : Int) t, .int (f2 : Int) u]) Q (fun _ _ => False) s := by
  refine callP (G := GG w) [Str.ofString "f", Str.ofString "g"] [.int (f1 : Int) t, .int (f2 : Int) u] [] [] [Str.ofString "f", Str.ofString "g"] [some (.int (f1 : Int) t), some (.int (f2 : Int) u)] [] _ hA (g.1 65 _ rfl) rfl g g.2.1 ⟨64, _, _, _, rfl, g.1 64 _ rfl, rfl, rfl⟩ rfl rfl (fun Q' E' q => wpAny_pure q) (by kernel_rfl) rfl (by kernel_rfl) (by kernel_rfl) (by kernel_rfl) (by kernel_rfl) ?_
  intro env s₁ hE hR H
  dsimp only at hE
  have e := worth_eq f1 h1 f2 h2
  repeat' (walk_at "go")
  · refine endI h (by assumption) ?_
    have e2 : (f1 : Int) = (f2 : Int) := by assumption
    rw [e, if_pos (by omega)]; rfl
  have hne : ¬ (f1 : Int) = (f2 : Int) := by assumption
  rename FS _ _ _ _ _ _ _ _ _ _ => hOld
  refine idxL' (hOld.lstP List.mem_cons_self) (.cons _ _ (.cons _ _ (.cons _ _ (.cons _ _ (.cons _ _ (.cons _ _ .nil)))))) (by omega) (letter_get f1 h1) rfl ?_
  intro u9
  repeat' (walk_at "go")
  rename FS _ _ _ _ _ _ _ _ _ _ => hOld
  refine idxL' (hOld.lstP List.mem_cons_self) (.cons _ _ (.cons _ _ (.cons _ _ (.cons _ _ (.cons _ _ (.cons _ _ .nil)))))) (by omega) (letter_get f2 h2) rfl ?_
  intro u9
  repeat' (walk_at "go")
  · refine endI h (by assumption) ?_
    have e2 : (letter f1 : Int) = (letter f2 : Int) := by assumption
    rw [e, if_neg (by omega), if_pos (by omega)]; rfl
  · refine endI h (by assumption) ?_
    have e2 : ¬ (letter f1 : Int) = (letter f2 : Int) := by assumption
    rw [e, if_neg (by omega), if_neg (by omega)]; rfl
theorem signs_is : Str.ofString "aAkK{[" = S [97, 65, 107, 75, 123, 91] := by decide +kernel
theorem empty_is : Str.ofString "" = S [] := by decide +kernel
theorem sgn_get : ∀ f, f < 6 → ([97, 65, 107, 75, 123, 91] : List Nat)[f]? = some (sgn f) := by decide
theorem sgn_sg : ∀ f, f < 6 → Sg (sgn f) := by
  intro f hf
  have : f = 0 ∨ f = 1 ∨ f = 2 ∨ f = 3 ∨ f = 4 ∨ f = 5 := by omega
  rcases this with rfl | rfl | rfl | rfl | rfl | rfl <;> (unfold Sg sgn; decide)
/-- a sign of the text for a figure -/
def FigTo (v y : Value) : Prop := ∀ (f : Nat) (u : Tok), v = .int (f : Int) u → f < 6 → ∃ t, y = .str (S [sgn f]) t
theorem figs_texts : ∀ {xs ys : List Value} {fs : List Nat}, IntsAre xs (fs.map fun (f : Nat) => (f : Int)) → (∀ f ∈ fs, f < 6) → Paired FigTo xs ys → ∃ l : List (List Nat × Tok), ys = l.map (fun p => Value.str (S p.1) p.2) ∧ l.map (·.1) = fs.map fun f => [sgn f]
  | [], _, [], _, _, .nil => ⟨[], rfl, rfl⟩
  | _ :: xs, _, f :: fs, .cons _ t hi, hf, .cons h hp => by
    obtain ⟨l, e1, e2⟩ := figs_texts hi (fun g hg => hf g (List.mem_cons_of_mem _ hg)) hp
    obtain ⟨t', e⟩ := h f t rfl (hf f List.mem_cons_self)
    exact ⟨([sgn f], t') :: l, by simp [e, e1], by simp [e2]⟩
theorem compE {G : Heap → Prop} {own : Bool} {s₀ : Shared} {env : Env} {nk : List (Str × NameKind)} {scope : Scope} {cl : List (Str × Addr)} {C : Addr} {ns cns : List Str} {vs cvs : List (Option Value)} {led : Led} {s : Shared}
    (_H : FS G own s₀ (compEnvC scope cl C env) ns vs cns cvs led s) (hE : EnvIs env nk) (hk : scope.kind = .function) (hd : (compNames scope nk).lookup (Str.ofString "__debug__") = none) : EnvIs (compEnvC scope cl C env) (compNames scope nk) := compEnv_is hE hk cl C hd
theorem text_call {A : Around} {s : Shared} {l : Addr} {xs : List Value} {fs : List Nat} {Q : Value → Shared → Prop} (hA : Room A 1) (g : GG w s.heap) (hl : s.heap.IsList l xs.toArray) (hi : IntsAre xs (fs.map fun (f : Nat) => (f : Int))) (hf : ∀ f ∈ fs, f < 6) (hn : fs.length ≤ 900)
    (h : ∀ t s', Keeps s s' → Q (.str (S (fs.map sgn)) t) s') :
    wpAny (model prog w) A (call (.ref 58) [.ref l]) Q (fun _ _ => False) s := by
  refine callP (G := GG w) [Str.ofString "figures"] [.ref l] [] [] [Str.ofString "figures"] [some (.ref l)] [] _ hA (g.1 58 _ rfl) rfl g g.2.1 ⟨57, _, _, _, rfl, g.1 57 _ rfl, rfl, rfl⟩ rfl rfl (fun Q' E' q => wpAny_pure q) (by kernel_rfl) rfl (by kernel_rfl) (by kernel_rfl) (by kernel_rfl) (by kernel_rfl) ?_
  intro env s₁ hE hR H
  dsimp only at hE
  have hlen : xs.length = fs.length := by rw [hi.length, List.length_map]
  repeat' (walk_at "go")
  refine evComp FigTo (closureFor_none (by decide)) (by decide) rfl (by decide) (by kernel_rfl) ?_
  repeat' (walk_at "go")
  rename FS _ _ _ _ _ _ _ _ _ _ => hOld
  refine compGoL (GG.st _) hR.handled hOld (hOld.base hl) (size_1000 (by omega)) [] [] List.nodup_nil (fun y o a => by cases a) (fun x y c e => by cases e) ?_ ?_
  · intro C i v s₃ E' hv hk H₃
    have hE' := compE H₃ hE rfl (by kernel_rfl)
    clear hOld
    have hin : i < fs.length := by rw [← hlen]; exact (List.getElem?_eq_some_iff.mp hv).1
    obtain ⟨f, hfi⟩ := get_some hin
    have hf6 : f < 6 := hf f (List.mem_of_getElem? hfi)
    obtain ⟨t0, e0⟩ := ints_get hi (i := i) (m := (f : Int)) (by rw [List.getElem?_map, hfi]; rfl)
    rw [hv] at e0
    cases e0
    repeat' (walk_at "go")
    rw [signs_is]
    rename FS _ _ _ _ _ _ _ _ _ _ => hOld
    refine idxS hOld (by constructor <;> omega) (j := f) (by rw [if_neg (by omega)]) (sgn_get f hf6) rfl ?_
    intro t9 s9 H9
    refine ⟨fun f' u' e' _ => ?_, H9.kept⟩
    cases e'
    exact ⟨t9, rfl⟩
  · intro D ys s₃ H₃ hp
    obtain ⟨l', e1, e2⟩ := figs_texts hi hf hp
    subst e1
    clear hOld
    repeat' (walk_at "go")
    rename FS _ _ _ _ _ _ _ _ _ _ => hOld
    rw [empty_is]
    refine joinS hOld (hOld.lstP List.mem_cons_self) ?_ ?_
    · rw [e2, List.map_map]
      refine size_1000 ?_
      have : ∀ k : List Nat, (k.map (List.length ∘ fun f => [sgn f])).sum = k.length := by
        intro k; induction k with
        | nil => rfl
        | cons a r ih => simp only [List.map_cons, List.sum_cons, ih, Function.comp, List.length_cons, List.length_nil]; omega
      rw [this]; omega
    · intro t9 s9 H9
      rw [e2]
      have : (fs.map fun f => [sgn f]).flatten = fs.map sgn := by
        clear h hi hf hn hlen e2
        induction fs with
        | nil => rfl
        | cons a r ih => simp only [List.map_cons, List.flatten_cons, ih, List.cons_append, List.nil_append]
      rw [this]
      exact h _ _ H9.kept
theorem fig_call {A : Around} {s : Shared} {l : Addr} {xs : List Value} {ns : List Int} {Q : Value → Shared → Prop} (hA : Room A 1) (g : GG w s.heap) (hl : s.heap.IsList l xs.toArray) (hi : IntsAre xs ns) (hn : ns.length ≤ 63)
    (h : ∀ D ys (fs : List Nat) s', Keeps s s' → s.heap.get? D = none → s'.heap.IsList D ys.toArray → IntsAre ys (fs.map fun (f : Nat) => (f : Int)) → fs.length = 9 → (∀ f ∈ fs, f < 6) → Q (.ref D) s') :
    wpAny (model prog w) A (call (.ref 53) [.ref l]) Q (fun _ _ => False) s := by
  refine callP (G := GG w) [Str.ofString "script"] [.ref l] [Str.ofString "figures", Str.ofString "k"] [] [Str.ofString "script", Str.ofString "figures", Str.ofString "k"] [some (.ref l), none, none] [] _ hA (g.1 53 _ rfl) rfl g g.2.1 ⟨52, _, _, _, rfl, g.1 52 _ rfl, rfl, rfl⟩ rfl rfl (fun Q' E' q => wpAny_pure q) (by kernel_rfl) rfl (by kernel_rfl) (by kernel_rfl) (by kernel_rfl) (by kernel_rfl) ?_
  intro env s₁ hE hR H
  dsimp only at hE
  have hlen : xs.length = ns.length := hi.length
  repeat' (walk_at "go")
  rename_i D _ _ _ _ _ _ _ _ _ _ _ _ H₇ hr₇
  rw [show min (27 : Int) (xs.length : Int) = ((min 27 xs.length : Nat) : Int) by omega] at hr₇
  refine forX (led := [(_, PlO _)]) [] hE hR H₇ hr₇ (min 27 xs.length) (small_n (by omega)).1 (small_n (by omega)).2
    (fun j vs cvs led => ∃ (P : Obj → Prop) (ys : List Value) (fs : List Nat) (D : Addr) (o1 : Option Value), vs = [some (.ref l), some (.ref D), o1] ∧ cvs = [] ∧ led = [(D, P)] ∧ (∀ o, P o → LstO ys o) ∧ IntsAre ys (fs.map fun (f : Nat) => (f : Int)) ∧ fs.length = 9 ∧ (∀ f ∈ fs, f < 6))
    ⟨_, _, [0, 3, 5, 3, 0, 0, 2, 4, 1], _, _, rfl, rfl, rfl, fun o ho => ho.lst, by exact .cons _ _ (.cons _ _ (.cons _ _ (.cons _ _ (.cons _ _ (.cons _ _ (.cons _ _ (.cons _ _ (.cons _ _ (.nil))))))))), rfl, by decide⟩ (by kernel_rfl) ?_ ?_
  · rintro j tj _ _ _ hj ⟨P, ys, fs, D, o1, rfl, rfl, rfl, hP, hys, hfl, hf6⟩
    refine ⟨_, by walk_at "put", fun hid s₈ H₈ => ?_⟩
    clear H₇ hr₇
    simp only [Int.zero_add, Int.mul_one] at H₈
    have hmod : Int.fmod (j : Int) 9 = ((j % 9 : Nat) : Int) := by rw [Int.fmod_eq_emod_of_nonneg _ (by decide)]; omega
    obtain ⟨f, hfj⟩ := get_some (l := fs) (i := j % 9) (by omega)
    obtain ⟨m, hmj⟩ : ∃ m, ns[j]? = some m := ⟨ns[j]'(by omega), List.getElem?_eq_getElem (by omega)⟩
    have hyl : ys.length = 9 := by rw [hys.length, List.length_map, hfl]
    repeat' (walk_at "go")
    rw [hmod]
    rename FS _ _ _ _ _ _ _ _ _ _ => hOld
    refine idxL' (hOld.lstQ List.mem_cons_self hP) hys (by omega) (k := j % 9) (m := (f : Int)) (by rw [List.getElem?_map, hfj]; rfl) rfl ?_
    intro u9
    repeat' (walk_at "go")
    rename FS _ _ _ _ _ _ _ _ _ _ => hOld
    refine idxL' (hOld.base hl) hi (by omega) hmj rfl ?_
    intro u9
    repeat' (walk_at "go")
    rw [hmod]
    obtain ⟨f', hf', hfm⟩ : ∃ f' : Nat, f' < 6 ∧ Int.fmod ((f : Int) + m) 6 = (f' : Int) := by
      refine ⟨(Int.fmod ((f : Int) + m) 6).toNat, ?_, ?_⟩ <;> (rw [Int.fmod_eq_emod_of_nonneg _ (by decide)]; omega)
    rw [hfm]
    rename FS _ _ _ _ _ _ _ _ _ _ => hOld
    refine setL' hOld (i := 0) rfl hP (by omega) (by omega) ?_
    clear hOld; intro s10 H10
    repeat' (walk_at "go")
    refine forNext [(D, LstO _)] (by assumption) ⟨_, _, fs.set (j % 9) f', D, _, rfl, rfl, rfl, fun o ho => ho, ?_, by rw [List.length_set, hfl], fun x hx => ?_⟩
    · rw [List.map_set]; exact ints_set hys _ _ _
    · rcases List.mem_or_eq_of_mem_set hx with hx | rfl
      · exact hf6 x hx
      · exact hf'
  · rintro _ _ _ s₈ ⟨P, ys, fs, D, o1, rfl, rfl, rfl, hP, hys, hfl, hf6⟩ H₈
    repeat' (walk_at "go")
    rename FS _ _ _ _ _ _ _ _ _ _ => hOld
    exact h D ys fs _ hOld.kept (hOld.has (D, P) List.mem_cons_self).2.2 (hOld.lstQ List.mem_cons_self hP) hys hfl hf6
/-- what two figures are worth -/
def wrt (f g : Nat) : Nat := (4 - subc (sgn f) (sgn g)).toNat
theorem wrt_is (f g : Nat) : ((wrt f g : Nat) : Int) = 4 - subc (sgn f) (sgn g) := by
  unfold wrt; have := subc_le (sgn f) (sgn g); omega
theorem wrt_le (f g : Nat) : wrt f g ≤ 4 := by
  unfold wrt; have := subc_nonneg (sgn f) (sgn g); omega
noncomputable abbrev grow (ms : List Int) (f : Nat) (gs : List Nat) (k : Nat) : List Int := growW wrt ms f gs k
theorem bisR_cnt {ms : List Int} {x : Int} {r : Nat} (h : bisROk ms x 0 ms.length r) : r = cnt ms x := cnt_parts h.2.1 (fun k m hk => h.2.2.1 k m (Nat.zero_le _) hk) h.2.2.2
theorem bisL_cnt {ms : List Int} {x : Int} {r : Nat} (h : bisLOk ms (x + 1) 0 ms.length r) : r = cnt ms x :=
  cnt_parts h.2.1 (fun k m hk e => by have := h.2.2.1 k m (Nat.zero_le _) hk e; omega) (fun k m h1 h2 e => by have := h.2.2.2 k m h1 h2 e; omega)
theorem small_down : ∀ n : Fin 41, Builtin.Range.small ((n.val : Int) - 1) (-1) (-1) = true ∧ Builtin.Range.rangeSize ((n.val : Int) - 1) (-1) (-1) = (n.val : Int) := by decide +kernel
theorem ints_rep (v : Int) (t : Tok) : ∀ n : Nat, IntsAre (List.replicate n (.int v t)) (List.replicate n v)
  | 0 => .nil
  | n + 1 => .cons v t (ints_rep v t n)
theorem ints_app : ∀ {a b : List Value} {m n : List Int}, IntsAre a m → IntsAre b n → IntsAre (a ++ b) (m ++ n)
  | _, _, _, _, .nil, h => h
  | _, _, _, _, .cons n t r, h => .cons n t (ints_app r h)
/-- where a list stands: the caller's, or the frame's own -/
def LedIs (s₀ : Shared) (led : Led) (l : Addr) (xs : List Value) : Prop := (led = [] ∧ s₀.heap.IsList l xs.toArray) ∨ led = [(l, PlO xs)]
theorem FS.ledIs {G : Heap → Prop} {own : Bool} {s₀ : Shared} {env : Env} {ns cns : List Str} {vs cvs : List (Option Value)} {led led' hid : Led} {s : Shared} {l : Addr} {xs : List Value}
    (H : FS G own s₀ env ns vs cns cvs (led' ++ (led ++ hid)) s) (h : LedIs s₀ led l xs) : s.heap.IsList l xs.toArray := by
  rcases h with ⟨_, h⟩ | rfl
  · exact H.base h
  · exact H.lstP (by simp)
theorem FS.tail5 {G : Heap → Prop} {own : Bool} {s₀ : Shared} {env : Env} {ns cns : List Str} {vs cvs : List (Option Value)} {led hid : Led} {p a b c d e : Addr × (Obj → Prop)} {s : Shared}
    (H : FS G own s₀ env ns vs cns cvs (p :: a :: b :: c :: d :: e :: (led ++ hid)) s) : FS G own s₀ env ns vs cns cvs ([p] ++ hid) s :=
  H.sub (List.Sublist.cons_cons _ ((((((List.sublist_append_right led hid).cons _).cons _).cons _).cons _).cons _))
theorem grown_call {A : Around} {s : Shared} {l lt : Addr} {xs ys : List Value} {ms : List Int} {gs : List Nat} {f : Nat} {t : Tok} {Q : Value → Shared → Prop} (hA : Room A 2) (g : GG w s.heap) (hl : s.heap.IsList l xs.toArray) (hi : IntsAre xs ms) (hn : ms.length ≤ 300) (hr : Rising ms)
    (hlt : s.heap.IsList lt ys.toArray) (hit : IntsAre ys (gs.map fun (f : Nat) => (f : Int))) (hgn : gs.length ≤ 40) (hg6 : ∀ f ∈ gs, f < 6) (hf : f < 6)
    (h : ∀ D zs s', Keeps s s' → (0 < gs.length → s.heap.get? D = none) → (s'.heap.IsList D zs.toArray) → IntsAre zs (growW wrt ms f gs gs.length) → Q (.ref D) s') :
    wpAny (model prog w) A (call (.ref 72) [.ref l, .int (f : Int) t, .ref lt]) Q (fun _ _ => False) s := by
  refine callP (G := GG w) [Str.ofString "ends", Str.ofString "f", Str.ofString "text"] [.ref l, .int (f : Int) t, .ref lt] [Str.ofString "x", Str.ofString "stop", Str.ofString "enough"] [] [Str.ofString "ends", Str.ofString "f", Str.ofString "text", Str.ofString "x", Str.ofString "stop", Str.ofString "enough"] [some (.ref l), some (.int (f : Int) t), some (.ref lt), none, none, none] [] _ hA (g.1 72 _ rfl) rfl g g.2.1 ⟨71, _, _, _, rfl, g.1 71 _ rfl, rfl, rfl⟩ rfl rfl (fun Q' E' q => wpAny_pure q) (by kernel_rfl) rfl (by kernel_rfl) (by kernel_rfl) (by kernel_rfl) (by kernel_rfl) ?_
  intro env s₁ hE hR H
  dsimp only at hE
  have hlen : ys.length = gs.length := by rw [hit.length, List.length_map]
  repeat' (walk_at "go")
  rename_i H₇ hr₇
  rw [hlen] at hr₇
  have hsm := small_down ⟨gs.length, by omega⟩
  refine forX (led := []) [] hE hR H₇ hr₇ gs.length hsm.1 hsm.2
    (fun k vs cvs led => ∃ (le : Addr) (zs : List Value) (o1 o2 o3 : Option Value), vs = [some (.ref le), some (.int (f : Int) t), some (.ref lt), o1, o2, o3] ∧ cvs = [] ∧ LedIs s led le zs ∧ (0 < k → led = [(le, PlO zs)]) ∧ IntsAre zs (growW wrt ms f gs k))
    ⟨l, xs, _, _, _, rfl, rfl, .inl ⟨rfl, hl⟩, fun h => absurd h (Nat.lt_irrefl 0), hi⟩ (by kernel_rfl) ?_ ?_
  · rintro k tk _ _ led hk ⟨le, zs, o1, o2, o3, rfl, rfl, hled, hfr, hzs⟩
    refine ⟨_, by walk_at "put", fun hid s₈ H₈ => ?_⟩
    clear H₇ hr₇
    rw [show ((gs.length : Int) - 1 + (k : Int) * -1) = ((gs.length - 1 - k : Nat) : Int) by omega] at H₈
    have hris := growW_rising wrt hr f gs k
    have hgl := growW_len wrt wrt_le ms f gs k
    have hzl : zs.length = (growW wrt ms f gs k).length := hzs.length
    obtain ⟨gx, hgx⟩ := get_some (l := gs) (i := gs.length - 1 - k) (by omega)
    have hg6x : gx < 6 := hg6 gx (List.mem_of_getElem? hgx)
    have hgd : gs.getD (gs.length - 1 - k) 0 = gx := by rw [List.getD_eq_getElem?_getD, hgx]; rfl
    have hnext : growW wrt ms f gs (k + 1) = stepL (growW wrt ms f gs k) (gs.length - 1 - k) (wrt f gx) := by rw [growW, hgd]
    have hxlt : gs.length - 1 - k < gs.length := by omega
    generalize gs.length - 1 - k = x at *
    generalize growW wrt ms f gs k = ms' at *
    repeat' (walk_at "go")
    rename FS _ _ _ _ _ _ _ _ _ _ => hOld
    refine bisR_call hR (hOld.gg (GG.st _)) (FS.ledIs (led' := []) hOld hled) hzs (by omega) (fun i j m m' => rising_get hris) ?_
    intro r1 t9 s9 hr1 k9
    have H9 := hOld.keeps k9
    clear hOld k9
    replace hr1 := bisR_cnt hr1
    repeat' (walk_at "go")
    rename FS _ _ _ _ _ _ _ _ _ _ => hOld
    refine bisL_call hR (hOld.gg (GG.st _)) (FS.ledIs (led' := []) hOld hled) hzs (by omega) (fun i j m m' => rising_get hris) ?_
    intro r2 t9 s9 hr2 k9
    have H9 := hOld.keeps k9
    clear hOld k9
    replace hr2 := bisL_cnt hr2
    repeat' (walk_at "go")
    rename FS _ _ _ _ _ _ _ _ _ _ => hOld
    refine idxL' (hOld.base hlt) hit (by omega) (k := x) (m := (gx : Int)) (by rw [List.getElem?_map, hgx]; rfl) rfl ?_
    intro u9
    repeat' (walk_at "go")
    rename FS _ _ _ _ _ _ _ _ _ _ => hOld
    refine worth_call (hR.less (Nat.le_refl _)) (hOld.gg (GG.st _)) hf hg6x ?_
    intro t9 s9 k9
    have H9 := hOld.keeps k9
    clear hOld k9
    rw [← wrt_is]
    have hc1 := cnt_le ms' ((x : Int) + 1)
    have hc2 := cnt_le ms' (x : Int)
    have hw4 := wrt_le f gx
    have hcm : cnt ms' x ≤ cnt ms' (x + 1) := cnt_mono ms' (by omega)
    repeat' (walk_at "go")
    -- ends[:stop]
    rename FS _ _ _ _ _ _ _ _ _ _ => hOld
    refine slL hOld (FS.ledIs (led' := []) hOld hled) .none (.int _ _) (size_1000 (by omega)) (ys := zs.take r1) (slicePick_upto' _ _) ?_
    clear hOld; intro b1 s10 H10
    repeat' (walk_at "go")
    rename FS _ _ _ _ _ _ _ _ _ _ => hOld
    refine mulL hOld List.mem_cons_self ⟨by omega, by omega⟩ ?_
    clear hOld; intro b2 s11 H11
    repeat' (walk_at "go")
    rename FS _ _ _ _ _ _ _ _ _ _ => hOld
    refine addL hOld (hOld.lstP (List.mem_cons_of_mem _ (List.mem_cons_of_mem _ List.mem_cons_self))) (hOld.lstP List.mem_cons_self) (size_1000 (by simp only [List.length_take, List.length_replicate]; omega)) ?_
    clear hOld; intro b3 s12 H12
    repeat' (walk_at "go")
    rw [show max (r1 : Int) ((r2 : Int) + ((wrt f gx : Nat) : Int)) = ((max r1 (r2 + wrt f gx) : Nat) : Int) by omega]
    rename FS _ _ _ _ _ _ _ _ _ _ => hOld
    refine slL hOld (FS.ledIs (led' := [(b3, _), (b2, _), (_, _), (b1, _)]) hOld hled) (.int _ _) .none (size_1000 (by omega)) (ys := zs.drop (max r1 (r2 + wrt f gx))) (slicePick_from' _ _) ?_
    clear hOld; intro b4 s13 H13
    repeat' (walk_at "go")
    rename FS _ _ _ _ _ _ _ _ _ _ => hOld
    refine addL hOld (hOld.lstP (List.mem_cons_of_mem _ List.mem_cons_self)) (hOld.lstP List.mem_cons_self) (size_1000 (by simp only [List.length_append, List.length_take, List.length_replicate, List.length_drop]; omega)) ?_
    clear hOld; intro b5 s14 H14
    repeat' (walk_at "go")
    rename FS _ _ _ _ _ _ _ _ _ _ => hOld
    have Hs := hOld.tail5
    refine forNext [_] Hs ⟨b5, _, _, _, _, rfl, rfl, .inr rfl, fun _ => rfl, ?_⟩
    · rw [hnext, stepL, ← hr1, ← hr2]
      rw [show ((r2 : Int) + ((wrt f gx : Nat) : Int) - (r1 : Int)).toNat = r2 + wrt f gx - r1 by omega]
      exact ints_app (ints_app (hzs.take _) (ints_rep _ _ _)) (hzs.drop _)
  · rintro _ _ led s₈ ⟨le, zs, o1, o2, o3, rfl, rfl, hled, hfr, hzs⟩ H₈
    repeat' (walk_at "go")
    rename FS _ _ _ _ _ _ _ _ _ _ => hOld
    exact h le zs _ hOld.kept (fun hk => by have e := hfr hk; subst e; exact (hOld.has (le, PlO zs) List.mem_cons_self).2.2) (FS.ledIs (led' := []) hOld hled) hzs
/-- the lists that _law_lists hands back -/
def ListsAre (refs : List Value) (L : Nat → List Int) (n : Nat) (P : Addr → List Value → Prop) : Prop := refs.length = n + 1 ∧ ∀ k, k ≤ n → ∃ a zs, refs[k]? = some (.ref a) ∧ P a zs ∧ IntsAre zs (L k)
theorem ListsAre.mono {refs : List Value} {L : Nat → List Int} {n : Nat} {P P' : Addr → List Value → Prop} (h : ListsAre refs L n P) (hp : ∀ a zs, P a zs → P' a zs) : ListsAre refs L n P' :=
  ⟨h.1, fun k hk => by obtain ⟨a, zs, h1, h2, h3⟩ := h.2 k hk; exact ⟨a, zs, h1, hp _ _ h2, h3⟩⟩
theorem ListsAre.snoc {refs : List Value} {L : Nat → List Int} {n : Nat} {P : Addr → List Value → Prop} (h : ListsAre refs L n P) {b : Addr} {zs : List Value} (hp : P b zs) (hi : IntsAre zs (L (n + 1))) : ListsAre (refs ++ [.ref b]) L (n + 1) P := by
  refine ⟨by simp [h.1], fun k hk => ?_⟩
  by_cases e : k ≤ n
  · obtain ⟨a, zs, h1, h2, h3⟩ := h.2 k e
    exact ⟨a, zs, by rw [List.getElem?_append_left (by rw [h.1]; omega)]; exact h1, h2, h3⟩
  · have : k = n + 1 := by omega
    subst this
    exact ⟨b, zs, by rw [List.getElem?_append_right (by rw [h.1]; omega), h.1]; simp, hp, hi⟩
/-- a list in the ledger -/
def InLed (led : Led) (a : Addr) (zs : List Value) : Prop := ∃ P, (a, P) ∈ led ∧ ∀ o, P o → LstO zs o
theorem lists_call {A : Around} {s : Shared} {lw lt : Addr} {xs ys : List Value} {wf gs : List Nat} {Q : Value → Shared → Prop} (hA : Room A 3) (g : GG w s.heap) (hlw : s.heap.IsList lw xs.toArray) (hiw : IntsAre xs (wf.map fun (f : Nat) => (f : Int)))
    (hlt : s.heap.IsList lt ys.toArray) (hit : IntsAre ys (gs.map fun (f : Nat) => (f : Int))) (hwn : wf.length ≤ 4) (hgn : gs.length ≤ 5) (hg0 : 0 < gs.length) (hw6 : ∀ f ∈ wf, f < 6) (hg6 : ∀ f ∈ gs, f < 6)
    (h : ∀ D refs led' s', Keeps s s' → NewLed s s' ((D, PlO refs) :: led') → ListsAre refs (listsW wrt wf gs) wf.length (InLed led') → Q (.ref D) s') :
    wpAny (model prog w) A (call (.ref 79) [.ref lw, .ref lt]) Q (fun _ _ => False) s := by
  refine callP (G := GG w) [Str.ofString "word", Str.ofString "text"] [.ref lw, .ref lt] [Str.ofString "lists", Str.ofString "f"] [] [Str.ofString "word", Str.ofString "text", Str.ofString "lists", Str.ofString "f"] [some (.ref lw), some (.ref lt), none, none] [] _ hA (g.1 79 _ rfl) rfl g g.2.1 ⟨78, _, _, _, rfl, g.1 78 _ rfl, rfl, rfl⟩ rfl rfl (fun Q' E' q => wpAny_pure q) (by kernel_rfl) rfl (by kernel_rfl) (by kernel_rfl) (by kernel_rfl) (by kernel_rfl) ?_
  intro env s₁ hE hR H
  dsimp only at hE
  have hlen : xs.length = wf.length := by rw [hiw.length, List.length_map]
  repeat' (walk_at "go")
  rename_i b1 _ b2 _ _ H₇
  refine forLX (led := [(b2, PlO _), (b1, PlO _)]) [] hE hR H₇ hlw
    (fun i vs cvs led => ∃ (D : Addr) (refs : List Value) (led' : Led) (o1 : Option Value), vs = [some (.ref lw), some (.ref lt), some (.ref D), o1] ∧ cvs = [] ∧ led = (D, PlO refs) :: led' ∧ ListsAre refs (listsW wrt wf gs) i (InLed led'))
    ⟨b2, _, _, _, rfl, rfl, rfl, rfl, fun k hk => ⟨b1, [], by rw [show k = 0 by omega]; rfl, ⟨_, List.mem_cons_self, fun o ho => ho.lst⟩, by rw [show k = 0 by omega]; exact .nil⟩⟩ (by kernel_rfl) ?_ ?_
  · rintro i v _ _ led hi ⟨D, refs, led', o1, rfl, rfl, rfl, hls⟩
    refine ⟨_, by walk_at "put", fun hid s₈ H₈ => ?_⟩
    clear H₇
    have hin : i < wf.length := by rw [← hlen]; exact (List.getElem?_eq_some_iff.mp hi).1
    obtain ⟨f, hfi⟩ := get_some hin
    have hf6 : f < 6 := hw6 f (List.mem_of_getElem? hfi)
    obtain ⟨t0, e0⟩ := ints_get hiw (i := i) (m := (f : Int)) (by rw [List.getElem?_map, hfi]; rfl)
    rw [hi] at e0
    cases e0
    have hfd : wf.getD i 0 = f := by rw [List.getD_eq_getElem?_getD, hfi]; rfl
    obtain ⟨a, zs, hra, ⟨P, hP1, hP2⟩, hzs⟩ := hls.2 i (Nat.le_refl _)
    have hrl := hls.1
    have hln := listsW_len wrt wrt_le wf gs i
    have hmul : 4 * gs.length * i ≤ 4 * 5 * 4 := Nat.mul_le_mul (Nat.mul_le_mul (Nat.le_refl _) hgn) (by omega)
    repeat' (walk_at "go")
    rename FS _ _ _ _ _ _ _ _ _ _ => hOld
    refine gmAppend' hOld (i := 0) rfl ?_
    dsimp only
    repeat' (walk_at "go")
    rename FS _ _ _ _ _ _ _ _ _ _ => hOld
    refine idxLneg (xs := refs) (hOld.lstP (by exact List.mem_cons_self)) (by omega) (by omega) (by omega) (x := .ref a) (by rw [hrl, show ((-1 : Int) + ((i + 1 : Nat) : Int)).toNat = i by omega]; exact hra) rfl ?_
    repeat' (walk_at "go")
    rename FS _ _ _ _ _ _ _ _ _ _ => hOld
    refine grown_call hR (hOld.gg (GG.st _)) (hOld.lstQ (by exact List.mem_cons_of_mem _ (List.mem_append_left _ hP1)) hP2) hzs (by omega) (listsW_rising wrt wf gs i) (hOld.base hlt) hit (by omega) hg6 hf6 ?_
    intro b zs' s9 k9 hf9 hl9 hz9
    have H9 := hOld.new (P := LstO zs') k9 (hf9 hg0) (by obtain ⟨o, h1, h2, h3⟩ := hl9; exact ⟨o, h1, h2, h3⟩)
    clear hOld k9
    repeat' (walk_at "go")
    rename FS _ _ _ _ _ _ _ _ _ _ => hOld
    refine appL hOld (i := 1) rfl (size_1000 (by omega)) ?_
    clear hOld; intro s10 H10
    have H11 := H10.perm (List.Perm.swap _ _ _)
    clear H10
    repeat' (walk_at "go")
    refine forNext ((D, PlO (refs ++ [.ref b])) :: (b, LstO zs') :: led') (by assumption) ⟨D, _, _, _, rfl, rfl, rfl, ?_⟩
    refine ListsAre.snoc (hls.mono fun a zs h => ?_) ⟨_, List.mem_cons_self, fun o ho => ho⟩ (by rw [listsW, hfd]; exact hz9)
    obtain ⟨P, h1, h2⟩ := h
    exact ⟨P, List.mem_cons_of_mem _ h1, h2⟩
  · rintro _ _ _ s₈ ⟨D, refs, led', o1, rfl, rfl, rfl, hls⟩ H₈
    rw [hlen] at hls
    repeat' (walk_at "go")
    rename FS _ _ _ _ _ _ _ _ _ _ => hOld
    rw [List.append_nil] at hOld
    exact h D refs led' _ hOld.kept hOld.newLed hls
noncomputable def lawBody : List Stmt := match (PySem.Challenge.pw_pu0024_02).main.body.getLast? with
  | some (.FunctionDef _ _ body _ _ _ _ _ _ _) => body
  | _ => []
noncomputable def lawNames : List (Str × NameKind) := match (PySem.Challenge.pw_pu0024_02).main.body.getLast? with
  | some (.FunctionDef _ _ _ _ _ _ scope _ _ _) => scope.names
  | _ => []
/-- an element of a list of scores -/
def ScO (L : List Int) (v y : Value) : Prop := ∀ (j : Nat) (u : Tok), v = .int (j : Int) u → ∃ t, y = .int (cnt L (j : Int) : Int) t
theorem law_walk {A : Around} {s₀ s : Shared} {env : Env} {l : Addr} {xs : List Value} {script : List Int} {Q : Flow → Shared → Prop} (hR : Room A 4) (hE : EnvIs env lawNames)
    (H : FS (GG w) true s₀ env [Str.ofString "script", Str.ofString "figures", Str.ofString "m", Str.ofString "n", Str.ofString "word", Str.ofString "text", Str.ofString "lists", Str.ofString "i", Str.ofString "j"] [some (.ref l), none, none, none, none, none, none, none, none] [Str.ofString "ends", Str.ofString "scores"] [none, none] [] s) (hl : s₀.heap.IsList l xs.toArray) (hi : IntsAre xs script) (hn : script.length ≤ 63)
    (h : ∀ s', Keeps s₀ s' → Q (.ret (.bool true)) s') : wpAny (model prog w) A (execs lawBody env) Q (fun _ _ => False) s := by
  have hlen : xs.length = script.length := hi.length
  show wpAny _ _ (execs (_ :: _) env) _ _ _
  repeat' (walk_at "go")
  rename FS _ _ _ _ _ _ _ _ _ _ => hOld
  refine fig_call (hR.less (by omega)) (hOld.gg (GG.st _)) (hOld.base hl) hi hn ?_
  intro Df ys fs s1 k1 hf1 hl1 hys hfl hf6
  have H1 := hOld.new (P := LstO ys) k1 hf1 (by obtain ⟨o, h1, h2, h3⟩ := hl1; exact ⟨o, h1, h2, h3⟩)
  clear hOld k1 hf1 hl1
  have hyl : ys.length = 9 := by rw [hys.length, List.length_map, hfl]
  repeat' (walk_at "go")
  rename FS _ _ _ _ _ _ _ _ _ _ => hOld
  obtain ⟨m, hm, em⟩ : ∃ m : Nat, (m = 3 ∨ m = 4) ∧ (3 + Int.fmod (Int.fdiv (xs.length : Int) 2) 2) = (m : Int) :=
    ⟨3 + xs.length / 2 % 2, by omega, by rw [Int.fdiv_eq_ediv_of_nonneg _ (by decide), Int.fmod_eq_emod_of_nonneg _ (by decide)]; omega⟩
  obtain ⟨n, hn4, en⟩ : ∃ n : Nat, (n = 4 ∨ n = 5) ∧ (4 + Int.fmod (Int.fdiv (xs.length : Int) 4) 2) = (n : Int) :=
    ⟨4 + xs.length / 4 % 2, by omega, by rw [Int.fdiv_eq_ediv_of_nonneg _ (by decide), Int.fmod_eq_emod_of_nonneg _ (by decide)]; omega⟩
  rw [em, en] at hOld
  rw [em]
  obtain ⟨wf, hwf⟩ : ∃ wf, wf = fs.take m := ⟨_, rfl⟩
  obtain ⟨tf, htf⟩ : ∃ tf, tf = (fs.drop m).take n := ⟨_, rfl⟩
  have hysw : IntsAre (ys.take m) (wf.map fun (f : Nat) => (f : Int)) := by rw [hwf, List.map_take]; exact hys.take m
  have hyst : IntsAre ((ys.drop m).take n) (tf.map fun (f : Nat) => (f : Int)) := by rw [htf, List.map_take, List.map_drop]; exact (hys.drop m).take n
  have hwl : wf.length = m := by rw [hwf, List.length_take]; omega
  have htl : tf.length = n := by rw [htf, List.length_take, List.length_drop]; omega
  have hw6 : ∀ f ∈ wf, f < 6 := fun f hf => hf6 f (List.mem_of_mem_take (hwf ▸ hf))
  have ht6 : ∀ f ∈ tf, f < 6 := fun f hf => hf6 f (List.mem_of_mem_drop (List.mem_of_mem_take (htf ▸ hf)))
  have hbet : ∀ k : Nat, slicePick ys.toArray (some (m : Int)) (some ((m + n : Nat) : Int)) none = ((ys.drop m).take n).toArray := fun _ => by
    have := slicePick_run ys.toArray m (m + n) (by simp; omega) (by omega)
    simpa using this
  refine slL hOld (hOld.lstQ List.mem_cons_self (fun o ho => ho)) .none (.int _ _) (size_1000 (by omega)) (ys := ys.take m) (slicePick_upto' _ _) ?_
  clear hOld; intro b1 s2 H2
  repeat' (walk_at "go")
  rename FS _ _ _ _ _ _ _ _ _ _ => hOld
  refine text_call (hR.less (by omega)) (hOld.gg (GG.st _)) (hOld.lstP List.mem_cons_self) hysw hw6 (by omega) ?_
  intro t9 s9 k9
  have H9 := hOld.keeps k9
  clear hOld k9
  repeat' (walk_at "go")
  rename FS _ _ _ _ _ _ _ _ _ _ => hOld
  rw [show ((m : Int) + (n : Int)) = ((m + n : Nat) : Int) by omega]
  refine slL hOld (hOld.lstQ (List.mem_cons_of_mem _ List.mem_cons_self) (fun o ho => ho)) (.int _ _) (.int _ _) (size_1000 (by omega)) (ys := (ys.drop m).take n) (hbet 0) ?_
  clear hOld; intro b2 s3 H3
  repeat' (walk_at "go")
  rename FS _ _ _ _ _ _ _ _ _ _ => hOld
  refine text_call (hR.less (by omega)) (hOld.gg (GG.st _)) (hOld.lstP List.mem_cons_self) hyst ht6 (by omega) ?_
  intro t10 s10 k10
  have H9 := hOld.keeps k10
  clear hOld k10
  repeat' (walk_at "go")
  rename FS _ _ _ _ _ _ _ _ _ _ => hOld
  refine slL hOld (hOld.lstQ (List.mem_cons_of_mem _ (List.mem_cons_of_mem _ List.mem_cons_self)) (fun o ho => ho)) .none (.int _ _) (size_1000 (by omega)) (ys := ys.take m) (slicePick_upto' _ _) ?_
  clear hOld; intro b3 s4 H4
  repeat' (walk_at "go")
  rename FS _ _ _ _ _ _ _ _ _ _ => hOld
  rw [show ((m : Int) + (n : Int)) = ((m + n : Nat) : Int) by omega]
  refine slL hOld (hOld.lstQ (List.mem_cons_of_mem _ (List.mem_cons_of_mem _ (List.mem_cons_of_mem _ List.mem_cons_self))) (fun o ho => ho)) (.int _ _) (.int _ _) (size_1000 (by omega)) (ys := (ys.drop m).take n) (hbet 0) ?_
  clear hOld; intro b4 s5 H5
  repeat' (walk_at "go")
  rename FS _ _ _ _ _ _ _ _ _ _ => hOld
  refine lists_call (hR.less (by omega)) (hOld.gg (GG.st _)) (hOld.lstP (List.mem_cons_of_mem _ List.mem_cons_self)) hysw (hOld.lstP List.mem_cons_self) hyst (by omega) (by omega) (by omega) hw6 ht6 ?_
  intro D refs led' s6 k6 hnew hls
  have H6 := hOld.news k6 hnew
  clear hOld k6 hnew
  rw [hwl] at hls
  repeat' (walk_at "go")
  rename_i H7 hr7
  rw [show ((m : Int) + 1) = ((m + 1 : Nat) : Int) by omega] at hr7
  obtain ⟨L, ⟨hDL, hlsL⟩, H8⟩ := H7.ex (fun L => (D, PlO refs) ∈ L ∧ ListsAre refs (listsW wrt wf tf) m (InLed L)) ⟨List.mem_cons_self, hls.mono fun a zs hm => by
    obtain ⟨P, h1, h2⟩ := hm
    exact ⟨P, List.mem_cons_of_mem _ (List.mem_append_left _ h1), h2⟩⟩
  clear H7 hls
  have hrl := hlsL.1
  refine forX (led := L) [] hE hR H8.nil hr7 (m + 1) (small_n (by omega)).1 (small_n (by omega)).2
    (fun i vs cvs led => ∃ (t1 t2 t3 t4 : Tok) (o1 o2 c1 c2 : Option Value), vs = [some (.ref l), some (.ref Df), some (.int (m : Int) t1), some (.int (n : Int) t2), some (.str (S (wf.map sgn)) t3), some (.str (S (tf.map sgn)) t4), some (.ref D), o1, o2] ∧ cvs = [c1, c2] ∧ led = L)
    ⟨_, _, _, _, _, _, _, _, rfl, rfl, rfl⟩ (by kernel_rfl) ?_ ?_
  · clear H8 hr7
    rintro i ti _ _ L' hi' ⟨t1, t2, t3, t4, o1, o2, c1, c2, rfl, rfl, hLL⟩
    subst hLL
    refine ⟨_, by walk_at "put", fun hid s₈ H₈ => ?_⟩
    simp only [Int.zero_add, Int.mul_one] at H₈
    obtain ⟨a, zs, hra, ⟨P, hP1, hP2⟩, hzs⟩ := hlsL.2 i (by omega)
    have hris := listsW_rising wrt wf tf i
    have hmem := listsW_mem wrt wf tf i
    have hlaw := listsW_law wrt subc sgn wrt_is wf tf i (by omega)
    have hln := listsW_len wrt wrt_le wf tf i
    have hmul : 4 * tf.length * i ≤ 4 * 5 * 4 := Nat.mul_le_mul (Nat.mul_le_mul (Nat.le_refl _) (by omega)) (by omega)
    generalize listsW wrt wf tf i = ms at *
    repeat' (walk_at "go")
    rename FS _ _ _ _ _ _ _ _ _ _ => hOld
    refine idxL (hOld.lstP (List.mem_append_left _ hDL)) (by omega) (by omega) (x := .ref a) (by simpa using hra) rfl ?_
    repeat' (walk_at "go")
    rename FS _ _ _ _ _ _ _ _ _ _ => hOld
    refine exAssignC hE (by kernel_rfl) ?_
    obtain ⟨ce, hce, hcev⟩ := hOld.cell (x := Str.ofString "ends") (v := .ref a) .head
    refine evComp (ScO ms) (closureFor_is (cl := [(Str.ofString "ends", ce)]) (by simp [clOf, hce])) (by decide) rfl (by decide) (by kernel_rfl) ?_
    repeat' (walk_at "go")
    rename_i H9 hr9
    rw [show ((n : Int) + 1) = ((n + 1 : Nat) : Int) by omega] at hr9
    have hla := H9.lstQ (List.mem_append_left _ hP1) hP2
    obtain ⟨ce', hce', hcev'⟩ := H9.cell (x := Str.ofString "ends") (v := .ref a) .head
    rw [hce] at hce'
    cases hce'
    refine compGoR (GG.st _) hR.handled H9 hr9 (small_n (by omega)).1 (n + 1) (small_n (by omega)).2 (size_1000 (by omega)) [Str.ofString "ends"] [some (.ref a)] (by simp) (fun y o ao => ?_) inj_one ?_ ?_
    · cases ao with
      | head => exact ⟨ce, by simp, hcev'⟩
      | tail ao => cases ao
    · intro C j tj s₃ E' hj hks H₃
      have hE' := compE H₃ hE rfl (by kernel_rfl)
      clear H9 hr9
      simp only [Int.zero_add, Int.mul_one] at H₃ ⊢
      have hla3 := hla.at fun o e => hks _ o e
      repeat' (walk_at "go")
      rename FS _ _ _ _ _ _ _ _ _ _ => hOld
      refine wpE (bisR_call (hR.less (by omega)) (hOld.gg (GG.st _)) (hOld.base hla3) hzs (by omega) (fun i j m m' => rising_get hris) ?_)
      intro r tr s9 hr k9
      refine ⟨fun j' u' e => ?_, Keeps.trans' hOld.kept k9⟩
      injection e with e1 e2
      have e3 : j = j' := by omega
      subst e3
      exact ⟨tr, by rw [bisR_cnt hr]⟩
    intro D2 ys2 s₃ H₃ hyl2 hy2
    clear H9 hr9 hla hcev'
    have hsc2 : IntsAre ys2 ((List.range (n + 1)).map fun (j : Nat) => (cnt ms (j : Int) : Int)) := ints_by ys2 _ _ hyl2 (fun j hj => by
      obtain ⟨t, y, h1, h2⟩ := hy2 j hj
      obtain ⟨t', e⟩ := h2 j t (by simp)
      exact ⟨t', by rw [h1, e]⟩)
    clear hy2 hyl2
    repeat' (walk_at "go")
    rename FS _ _ _ _ _ _ _ _ _ _ => hOld
    refine evComp (ScO ms) (closureFor_is (cl := [(Str.ofString "ends", ce)]) (by simp [clOf, hce])) (by decide) rfl (by decide) (by kernel_rfl) ?_
    repeat' (walk_at "go")
    rename_i H9 hr9
    rw [show ((n : Int) + 1) = ((n + 1 : Nat) : Int) by omega] at hr9
    have hla := H9.lstQ (List.mem_cons_of_mem _ (List.mem_append_left _ hP1)) hP2
    obtain ⟨ce', hce', hcev'⟩ := H9.cell (x := Str.ofString "ends") (v := .ref a) .head
    rw [hce] at hce'
    cases hce'
    refine compGoR (GG.st _) hR.handled H9 hr9 (small_n (by omega)).1 (n + 1) (small_n (by omega)).2 (size_1000 (by omega)) [Str.ofString "ends"] [some (.ref a)] (by simp) (fun y o ao => ?_) inj_one ?_ ?_
    · cases ao with
      | head => exact ⟨ce, by simp, hcev'⟩
      | tail ao => cases ao
    · intro C j tj s₃ E' hj hks H₃
      have hE' := compE H₃ hE rfl (by kernel_rfl)
      clear H9 hr9
      simp only [Int.zero_add, Int.mul_one] at H₃ ⊢
      have hla3 := hla.at fun o e => hks _ o e
      repeat' (walk_at "go")
      rename FS _ _ _ _ _ _ _ _ _ _ => hOld
      refine wpE (bisL_call (hR.less (by omega)) (hOld.gg (GG.st _)) (hOld.base hla3) hzs (by omega) (fun i j m m' => rising_get hris) ?_)
      intro r tr s9 hr k9
      refine ⟨fun j' u' e => ?_, Keeps.trans' hOld.kept k9⟩
      injection e with e1 e2
      have e3 : j = j' := by omega
      subst e3
      exact ⟨tr, by rw [bisL_cnt hr]⟩
    intro D3 ys3 s₃ H₃ hyl2 hy2
    clear H9 hr9 hla hcev'
    have hsc3 : IntsAre ys3 ((List.range (n + 1)).map fun (j : Nat) => (cnt ms (j : Int) : Int)) := ints_by ys3 _ _ hyl2 (fun j hj => by
      obtain ⟨t, y, h1, h2⟩ := hy2 j hj
      obtain ⟨t', e⟩ := h2 j t (by simp)
      exact ⟨t', by rw [h1, e]⟩)
    clear hy2 hyl2
    repeat' (walk_at "go")
    rename FS _ _ _ _ _ _ _ _ _ _ => hOld
    refine ne_intsK (hOld.lstP (List.mem_cons_of_mem _ List.mem_cons_self)) hsc2 (hOld.lstP List.mem_cons_self) hsc3 (by have := hR.units; omega) ?_
    simp only [decide_true, Bool.not_true]
    repeat' (walk_at "go")
    rename FS _ _ _ _ _ _ _ _ _ _ => hOld
    obtain ⟨cs, hcs, hcsv⟩ := hOld.cell (x := Str.ofString "scores") (v := .ref D2) (.tail .head)
    have hcn : ∀ j : Int, cnt ms j ≤ 80 := fun j => by have := cnt_le ms j; omega
    refine evComp2 (GG.st _) hE hR.handled hOld (closureFor_is (cl := [(Str.ofString "scores", cs)]) (by simp [clOf, hcs])) (by decide) rfl (by decide) (by kernel_rfl) (by kernel_rfl) (by decide) (by kernel_rfl) inj_one 1 n
      (fun i => cnt ms ((i + 1 : Nat) : Int) - cnt ms (i : Nat)) (by omega) (fun i _ => by have := hcn ((i + 1 : Nat) : Int); omega) ?_ ?_ ?_
    · clear hcsv
      repeat' (walk_at "go")
      rename_i H9 hr9
      exact ⟨H9, _, _, _, _, _, rfl, hr9, (small_ab (by omega) (by omega)).1, by rw [(small_ab (by omega) (by omega)).2]; congr 1; omega⟩
    · intro C s₁ k tk o led' s₃ hk HA HB
      have hE' := compE HB hE rfl (by kernel_rfl)
      have hl2 := HA.lstP (a := D2) (xs := ys2) (List.mem_cons_of_mem _ List.mem_cons_self)
      obtain ⟨cs', hcs', hcsv'⟩ := HA.cell (x := Str.ofString "scores") (v := .ref D2) (.tail .head)
      rw [hcs] at hcs'
      cases hcs'
      clear HA hOld hcsv
      have hm1 : cnt ms (k : Nat) ≤ cnt ms ((k + 1 : Nat) : Int) := cnt_mono ms (by omega)
      repeat' (walk_at "go")
      rename FS _ _ _ _ _ _ _ _ _ _ => hOld
      refine nmC0 hOld hE' (c := cs) (by simp [compEnvC]) hcsv' (by kernel_rfl) ?_
      repeat' (walk_at "go")
      rw [show (1 + (k : Int)) = ((k + 1 : Nat) : Int) by omega]
      rename FS _ _ _ _ _ _ _ _ _ _ => hOld
      refine idxL' (hOld.base hl2) hsc2 (by omega) (m := (cnt ms ((k + 1 : Nat) : Int) : Int)) (by rw [List.getElem?_map, List.getElem?_range (by omega)]; rfl) rfl ?_
      intro u9
      repeat' (walk_at "go")
      rename FS _ _ _ _ _ _ _ _ _ _ => hOld
      refine nmC0 hOld hE' (c := cs) (by simp [compEnvC]) hcsv' (by kernel_rfl) ?_
      repeat' (walk_at "go")
      rw [show (1 + (k : Int) - 1) = ((k : Nat) : Int) by omega]
      rename FS _ _ _ _ _ _ _ _ _ _ => hOld
      refine idxL' (hOld.base hl2) hsc2 (by omega) (m := (cnt ms (k : Nat) : Int)) (by rw [List.getElem?_map, List.getElem?_range (by omega)]; rfl) rfl ?_
      intro u9
      repeat' (walk_at "go")
      rename_i H9 hr9
      rw [show ((cnt ms ((k + 1 : Nat) : Int) : Int) - (cnt ms (k : Nat) : Int)) = ((cnt ms ((k + 1 : Nat) : Int) - cnt ms (k : Nat) : Nat) : Int) by omega] at hr9
      exact ⟨by rw [show ((k + 1 : Nat) : Int) = 1 + (k : Int) by omega]; exact H9, _, _, _, _, rfl, hr9⟩
    intro D4 ys4 s₃ H₃ hsc4
    clear hOld hcsv
    have hsc4' : IntsAre ys4 ms := by
      have e := rising_whole hris (n := n) (by rw [← htl]; exact hmem)
      rw [← e]
      have e2 : ∀ k : Nat, (1 : Int) + (k : Int) = ((k + 1 : Nat) : Int) := fun k => by omega
      simp only [e2] at hsc4
      exact hsc4
    clear hsc4
    repeat' (walk_at "go")
    rename FS _ _ _ _ _ _ _ _ _ _ => hOld
    refine ne_intsK (hOld.lstQ (List.mem_cons_of_mem _ (List.mem_cons_of_mem _ (List.mem_cons_of_mem _ (List.mem_append_left _ hP1)))) hP2) hzs (hOld.lstP List.mem_cons_self) hsc4' (by have := hR.units; omega) ?_
    simp only [decide_true, Bool.not_true]
    repeat' (walk_at "go")
    rename_i H9 hr9
    rw [show ((n : Int) + 1) = ((n + 1 : Nat) : Int) by omega] at hr9
    obtain ⟨L2, ⟨hd2, hsub⟩, H10⟩ := H9.ex (fun L2 => (D2, PlO ys2) ∈ L2 ∧ (L' ++ hid).Sublist L2) ⟨List.mem_cons_of_mem _ (List.mem_cons_of_mem _ List.mem_cons_self), (((List.Sublist.refl _).cons _).cons _).cons _⟩
    clear H9
    refine forX (led := L2) [] hE hR H10.nil hr9 (n + 1) (small_n (by omega)).1 (small_n (by omega)).2
      (fun i' vs cvs led => ∃ (o : Option Value), vs = [some (.ref l), some (.ref Df), some (.int (m : Int) t1), some (.int (n : Int) t2), some (.str (S (wf.map sgn)) t3), some (.str (S (tf.map sgn)) t4), some (.ref D), some (.int (i : Int) ti), o] ∧ cvs = [some (.ref a), some (.ref D2)] ∧ led = L2)
      ⟨_, rfl, rfl, rfl⟩ (by kernel_rfl) ?_ ?_
    · clear H10 hr9
      rintro j tj _ _ L3 hj ⟨o, rfl, rfl, hLL⟩
      subst hLL
      refine ⟨_, by walk_at "put", fun hid2 s₈ H₈ => ?_⟩
      simp only [Int.zero_add, Int.mul_one] at H₈
      have hlj := hlaw j (by omega)
      repeat' (walk_at "go")
      rename FS _ _ _ _ _ _ _ _ _ _ => hOld
      refine slToN hOld (by rw [List.length_map]; omega) (by rw [List.length_map]; omega) ?_
      clear hOld; intro ta sa Ha
      repeat' (walk_at "go")
      rename FS _ _ _ _ _ _ _ _ _ _ => hOld
      refine slToN hOld (by rw [List.length_map]; omega) (by rw [List.length_map]; omega) ?_
      clear hOld; intro tb sb Hb
      repeat' (walk_at "go")
      rename FS _ _ _ _ _ _ _ _ _ _ => hOld
      refine idxL' (hOld.lstP (List.mem_append_left _ hd2)) hsc2 (by omega) (m := (cnt ms (j : Nat) : Int)) (by rw [List.getElem?_map, List.getElem?_range (by omega)]; rfl) rfl ?_
      intro u9
      repeat' (walk_at "go")
      rename FS _ _ _ _ _ _ _ _ _ _ => hOld
      refine tells_call (hR.less (by omega)) (hOld.gg (GG.st _)) (fun x hx => ?_) (fun x hx => ?_) (by rw [List.length_take, List.length_map]; omega) (by rw [List.length_take, List.length_map]; omega) (by unfold dd at hlj; omega) (by rw [Int.fmod_eq_emod_of_nonneg _ (by decide)]; omega) ?_
      · obtain ⟨f, hf, rfl⟩ := List.mem_map.mp (List.mem_of_mem_take hx)
        exact sgn_sg f (hw6 f hf)
      · obtain ⟨f, hf, rfl⟩ := List.mem_map.mp (List.mem_of_mem_take hx)
        exact sgn_sg f (ht6 f hf)
      intro s9 k9
      have H9 := hOld.keeps k9
      clear hOld k9
      repeat' (walk_at "go")
      · exact absurd (show (!true) = true by assumption) (by decide)
      exact forNext L3 (by assumption) ⟨_, rfl, rfl, rfl⟩
    · rintro _ _ _ s₈ ⟨o, rfl, rfl, rfl⟩ H₈
      repeat' (walk_at "go")
      rename FS _ _ _ _ _ _ _ _ _ _ => hOld
      rw [List.append_nil] at hOld
      exact forNext L' (hOld.sub hsub) ⟨_, _, _, _, _, _, _, _, rfl, rfl, rfl⟩
  · rintro _ _ _ s₈ ⟨t1, t2, t3, t4, o1, o2, c1, c2, rfl, rfl, rfl⟩ H₈
    repeat' (walk_at "go")
    exact h _ (FS.kept (by assumption))
end Mine
theorem PySem.Challenge.cw_pu0024_02_holds : PySem.Challenge.rw_pu0024_02.Holds :=
  Mine.hd2 (by
  k_go0
  rename Fr _ _ _ _ => F
  rename News _ _ _ _ => N
  rename Frag.In _ _ => KX
  rename Top _ _ _ _ _ _ => T
  rename IntsAre _ _ => hI
  rename Heap.IsList _ _ _ => hL
  rename _ = #[] => hgens
  refine Mine.wpE (Mine.law_walk (Mine.room_law _) ⟨rfl, rfl, rfl, rfl, by kernel_rfl⟩ (Mine.FS.ofFr rfl F ⟨KX, T.nolimit, ⟨_, T.g⟩, ⟨_, T.b, T.builtins⟩⟩ (by decide) (by decide) ?_ ?_ ?_) hL hI (by omega) ?_)
  · intro x v a
    cases a with
    | head => rfl
    | tail a => exact (Mine.at_none (ns := [Str.ofString "figures", Str.ofString "m", Str.ofString "n", Str.ofString "word", Str.ofString "text", Str.ofString "lists", Str.ofString "i", Str.ofString "j"]) a).elim
  · rename _ = Data.cell _ => hc1
    revert hc1
    rename _ = Data.cell _ => hc2
    intro hc1
    intro x hx
    rcases List.mem_cons.mp hx with rfl | hx
    · obtain ⟨n1, n2, n3⟩ := N _ (List.mem_cons_of_mem _ List.mem_cons_self)
      exact ⟨_, _, by kernel_rfl, n1, hc1.trans (by rfl), n3, n2⟩
    · rcases List.mem_cons.mp hx with rfl | hx
      · obtain ⟨n1, n2, n3⟩ := N _ List.mem_cons_self
        exact ⟨_, _, by kernel_rfl, n1, hc2.trans (by rfl), n3, n2⟩
      · cases hx
  · exact Mine.inj_two (Nat.succ_ne_self _)
  · intro s' k
    refine Mine.goodTrue k hgens (raisesW_false (by wrow_none_raised)) (by wrow_post))
