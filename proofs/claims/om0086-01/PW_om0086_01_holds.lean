import PyProof.Rows.All
import Wide.All
import OpenK.AllK
import Wide.FinOn
import PySem.Challenge.RW_om0086_01
set_option Elab.async false

section
set_option autoImplicit false
set_option linter.unusedVariables false
namespace Mine
/-! the exterior algebra over bit lists (top bit first) -/
noncomputable abbrev Om := List Bool → Int
noncomputable def W : Nat → (Nat → Int) → Om → Om
  | 0, _, _, _ => 0
  | n + 1, u, ω, b :: T => if b then u n * ω (false :: T) - W n u (fun S => ω (true :: S)) T else W n u (fun S => ω (false :: S)) T
  | _ + 1, _, _, [] => 0
noncomputable def EqN (n : Nat) (ω ω' : Om) : Prop := ∀ T : List Bool, T.length = n → ω T = ω' T

theorem W_congr {n : Nat} {u u' : Nat → Int} {ω ω' : Om} (hu : ∀ j, j < n → u j = u' j) (h : EqN n ω ω') : EqN n (W n u ω) (W n u' ω') := by
  induction n generalizing ω ω' with
  | zero => intro T _; rfl
  | succ n ih =>
    intro T hT
    cases T with
    | nil => simp at hT
    | cons b T =>
      have hT' : T.length = n := by simpa using hT
      have h0 : EqN n (fun S => ω (false :: S)) fun S => ω' (false :: S) := fun S hS => h _ (by simp [hS])
      have h1 : EqN n (fun S => ω (true :: S)) fun S => ω' (true :: S) := fun S hS => h _ (by simp [hS])
      have hu' : ∀ j, j < n → u j = u' j := fun j hj => hu j (by omega)
      cases b with
      | false => simp only [W, Bool.false_eq_true, if_false]; exact ih hu' h0 T hT'
      | true => simp only [W, if_true]; rw [hu n (by omega), ih hu' h1 T hT', h (false :: T) (by simp [hT'])]
theorem W_lin {n : Nat} {u : Nat → Int} (a b : Int) (ω ω' : Om) (T : List Bool) : W n u (fun S => a * ω S + b * ω' S) T = a * W n u ω T + b * W n u ω' T := by
  induction n generalizing ω ω' T with
  | zero => simp [W]
  | succ n ih =>
    cases T with
    | nil => simp [W]
    | cons c T =>
      cases c with
      | false => simp only [W, Bool.false_eq_true, if_false]; exact ih _ _ T
      | true =>
        simp only [W, if_true]
        rw [ih (fun S => ω (true :: S)) (fun S => ω' (true :: S)) T]
        rw [Int.mul_add, Int.mul_sub, Int.mul_sub, Int.mul_left_comm, Int.mul_left_comm (u n) b]
        omega
theorem W_smul {n : Nat} {u : Nat → Int} (a : Int) (ω : Om) (T : List Bool) : W n u (fun S => a * ω S) T = a * W n u ω T := by
  have := W_lin (n := n) (u := u) a 0 ω ω T
  simpa using this
theorem W_zero {n : Nat} {u : Nat → Int} (T : List Bool) : W n u (fun _ => 0) T = 0 := by
  have := W_smul (n := n) (u := u) 0 (fun _ => 0) T
  simpa using this
theorem W_vec {n : Nat} {u v : Nat → Int} (a b : Int) (ω : Om) (T : List Bool) : W n (fun j => a * u j + b * v j) ω T = a * W n u ω T + b * W n v ω T := by
  induction n generalizing ω T with
  | zero => simp [W]
  | succ n ih =>
    cases T with
    | nil => simp [W]
    | cons c T =>
      cases c with
      | false => simp only [W, Bool.false_eq_true, if_false]; exact ih _ T
      | true =>
        simp only [W, if_true]
        rw [ih (fun S => ω (true :: S)) T]
        simp only [Int.add_mul, Int.mul_sub, Int.mul_assoc]
        omega
theorem W_anti {n : Nat} (u v : Nat → Int) (ω : Om) (T : List Bool) : W n u (W n v ω) T = - W n v (W n u ω) T := by
  induction n generalizing ω T with
  | zero => simp [W]
  | succ n ih =>
    cases T with
    | nil => simp [W]
    | cons c T =>
      cases c with
      | false => simp only [W, Bool.false_eq_true, if_false]; exact ih _ T
      | true =>
        simp only [W, if_true, Bool.false_eq_true, if_false]
        have e1 : ∀ (x y : Nat → Int), W n x (fun S => y n * ω (false :: S) - W n y (fun S => ω (true :: S)) S) T = y n * W n x (fun S => ω (false :: S)) T - W n x (W n y (fun S => ω (true :: S))) T := fun x y => by
          have := W_lin (n := n) (u := x) (y n) (-1) (fun S => ω (false :: S)) (W n y fun S => ω (true :: S)) T
          have e2 : (fun S => y n * ω (false :: S) - W n y (fun S => ω (true :: S)) S) = fun S => y n * ω (false :: S) + -1 * W n y (fun S => ω (true :: S)) S := by funext S; omega
          rw [e2, this]; omega
        rw [e1 u v, e1 v u, ih]
        omega
theorem W_sq {n : Nat} (u : Nat → Int) (ω : Om) (T : List Bool) : W n u (W n u ω) T = 0 := by
  have := W_anti (n := n) u u ω T
  omega

noncomputable def prodW (n : Nat) (us : List (Nat → Int)) (ω : Om) : Om := us.foldl (fun ω u => W n u ω) ω
theorem prodW_cons {n : Nat} {u : Nat → Int} {us : List (Nat → Int)} {ω : Om} : prodW n (u :: us) ω = prodW n us (W n u ω) := rfl
theorem prodW_snoc {n : Nat} {u : Nat → Int} {us : List (Nat → Int)} {ω : Om} : prodW n (us ++ [u]) ω = W n u (prodW n us ω) := by
  unfold prodW; rw [List.foldl_append]; rfl
theorem prodW_congr {n : Nat} {us : List (Nat → Int)} {ω ω' : Om} (h : EqN n ω ω') : EqN n (prodW n us ω) (prodW n us ω') := by
  induction us generalizing ω ω' with
  | nil => exact h
  | cons u us ih => exact ih (W_congr (fun _ _ => rfl) h)
theorem prodW_smul {n : Nat} {us : List (Nat → Int)} (a : Int) (ω : Om) (T : List Bool) : prodW n us (fun S => a * ω S) T = a * prodW n us ω T := by
  induction us generalizing ω with
  | nil => rfl
  | cons u us ih =>
    rw [prodW_cons, prodW_cons, ← ih]
    congr 1
    funext S
    exact W_smul a ω S

/-- a permutation costs a sign that does not hang on the vectors -/
theorem prodW_perm {ι : Type} {n : Nat} {l l' : List ι} (p : l.Perm l') : ∃ ε : Int, ε * ε = 1 ∧ ∀ (b : ι → Nat → Int) (ω : Om) (T : List Bool), prodW n (l.map b) ω T = ε * prodW n (l'.map b) ω T := by
  induction p with
  | nil => exact ⟨1, rfl, fun b ω T => by simp⟩
  | cons x _ ih =>
    obtain ⟨ε, e1, e2⟩ := ih
    exact ⟨ε, e1, fun b ω T => by rw [List.map_cons, List.map_cons, prodW_cons, prodW_cons]; exact e2 b _ T⟩
  | swap x y l =>
    refine ⟨-1, rfl, fun b ω T => ?_⟩
    simp only [List.map_cons, prodW_cons]
    rw [← prodW_smul]
    congr 1
    funext S
    have := W_anti (n := n) (b x) (b y) ω S
    omega
  | trans _ _ ih1 ih2 =>
    obtain ⟨ε1, a1, a2⟩ := ih1
    obtain ⟨ε2, b1, b2⟩ := ih2
    refine ⟨ε1 * ε2, ?_, fun b ω T => by rw [a2, b2, Int.mul_assoc]⟩
    rw [Int.mul_assoc, Int.mul_comm ε2, Int.mul_assoc, b1, Int.mul_one, a1]

theorem prodW_kill {n : Nat} {us : List (Nat → Int)} {v : Nat → Int} (h : v ∈ us) (ω : Om) (T : List Bool) : W n v (prodW n us ω) T = 0 := by
  have key : ∀ (k : Nat) (us : List (Nat → Int)), us.length = k → v ∈ us → ∀ T, W n v (prodW n us ω) T = 0 := by
    intro k
    induction k with
    | zero => intro us hl hm; have := List.length_eq_zero_iff.mp hl; subst this; cases hm
    | succ k ih =>
      intro us hl hm T
      have hne : us ≠ [] := fun q => by rw [q] at hl; cases hl
      have e := List.dropLast_concat_getLast hne
      rw [← e] at hm ⊢
      rw [prodW_snoc]
      rcases List.mem_append.mp hm with q | q
      · rw [W_anti]
        have z : W n v (prodW n us.dropLast ω) = fun _ => 0 := funext fun S => ih us.dropLast (by simp [hl]) q S
        rw [z, W_zero]; rfl
      · rw [List.mem_singleton.mp q]
        exact W_sq _ _ _
  exact key _ us rfl h T

/-- combinations -/
noncomputable def comb : List (Int × (Nat → Int)) → Nat → Int
  | [], _ => 0
  | p :: l, j => p.1 * p.2 j + comb l j
theorem W_comb_zero {n : Nat} {l : List (Int × (Nat → Int))} {ω : Om} (h : ∀ q ∈ l, ∀ T, W n q.2 ω T = 0) (T : List Bool) : W n (comb l) ω T = 0 := by
  induction l with
  | nil =>
    have : W n (comb []) ω T = W n (fun j => 0 * (fun _ => 0) j + 0 * (fun _ => 0) j) ω T := by
      have e : comb [] = fun j => 0 * (fun _ => (0 : Int)) j + 0 * (fun _ => (0 : Int)) j := by funext j; simp [comb]
      rw [e]
    rw [this, W_vec]; simp
  | cons p l ih =>
    have e : comb (p :: l) = fun j => p.1 * p.2 j + 1 * comb l j := by funext j; simp [comb]
    rw [e, W_vec, h p List.mem_cons_self, ih fun q hq => h q (List.mem_cons_of_mem _ hq)]; simp
inductive Tri (n : Nat) : List (Nat → Int) → List (Nat → Int) → Int → Prop
  | nil : Tri n [] [] 1
  | snoc {ms as : List (Nat → Int)} {p : Int} {m a : Nat → Int} {c : Int} (l : List (Int × (Nat → Int))) : Tri n ms as p → (∀ q ∈ l, q.2 ∈ as) → (∀ j, j < n → m j = c * a j + comb l j) → Tri n (ms ++ [m]) (as ++ [a]) (p * c)
theorem Tri.prod {n : Nat} {ms as : List (Nat → Int)} {p : Int} (h : Tri n ms as p) (ω : Om) : EqN n (prodW n ms ω) fun T => p * prodW n as ω T := by
  induction h with
  | nil => intro T _; simp [prodW]
  | @snoc ms as p m a c l _ h1 h2 ih =>
    intro T hT
    rw [prodW_snoc, prodW_snoc]
    have e1 : W n m (prodW n ms ω) T = W n (fun j => c * a j + 1 * comb l j) (fun T => p * prodW n as ω T) T := W_congr (fun j hj => by rw [h2 j hj]; omega) ih T hT
    rw [e1, W_smul, W_vec, W_comb_zero (fun q hq T => prodW_kill (h1 q hq) ω T)]
    rw [Int.mul_zero, Int.add_zero, ← Int.mul_assoc]
end Mine
end

section
set_option autoImplicit false
set_option linter.unusedVariables false
namespace Mine
noncomputable def prodL : List Int → Int
  | [] => 1
  | a :: l => a * prodL l
noncomputable def sumL {ι : Type} (f : ι → Int) : List ι → Int
  | [] => 0
  | a :: l => f a + sumL f l
theorem prodL_perm {l l' : List Int} (p : l.Perm l') : prodL l = prodL l' := by
  induction p with
  | nil => rfl
  | cons x _ ih => simp [prodL, ih]
  | swap x y l => simp only [prodL]; rw [← Int.mul_assoc, ← Int.mul_assoc, Int.mul_comm y x]
  | trans _ _ h1 h2 => exact h1.trans h2
theorem sumL_perm {ι : Type} {f : ι → Int} {l l' : List ι} (p : l.Perm l') : sumL f l = sumL f l' := by
  induction p with
  | nil => rfl
  | cons x _ ih => simp [sumL, ih]
  | swap x y l => simp only [sumL]; omega
  | trans _ _ h1 h2 => exact h1.trans h2
theorem sumL_append {ι : Type} {f : ι → Int} (l l' : List ι) : sumL f (l ++ l') = sumL f l + sumL f l' := by
  induction l with
  | nil => simp [sumL]
  | cons x l ih => simp only [List.cons_append, sumL, ih]; omega
theorem prodL_snoc (l : List Int) (c : Int) : prodL (l ++ [c]) = prodL l * c := by
  induction l with
  | nil => simp [prodL]
  | cons x l ih => simp only [List.cons_append, prodL, ih, Int.mul_assoc]
theorem comb_map {ι : Type} (c : ι → Int) (v : ι → Nat → Int) (l : List ι) (j : Nat) : comb (l.map fun k => (c k, v k)) j = sumL (fun k => c k * v k j) l := by
  induction l with
  | nil => rfl
  | cons x l ih => simp only [List.map_cons, comb, sumL, ih]
theorem sumL_congr {ι : Type} {f g : ι → Int} {l : List ι} (h : ∀ x ∈ l, f x = g x) : sumL f l = sumL g l := by
  induction l with
  | nil => rfl
  | cons x l ih => simp only [sumL]; rw [h x List.mem_cons_self, ih fun y hy => h y (List.mem_cons_of_mem _ hy)]
theorem sumL_filter {ι : Type} {f : ι → Int} {p : ι → Bool} {l : List ι} : sumL f (l.filter p) = sumL (fun k => (if p k then 1 else 0) * f k) l := by
  induction l with
  | nil => rfl
  | cons x l ih =>
    rw [List.filter_cons]
    cases h : p x with
    | true => simp [sumL, h, ih]
    | false => simp [sumL, h, ih]

/-- triangular in some order: the product of the diagonal -/
theorem tri_perm {n : Nat} {L s : List Nat} (hp : L.Perm s) (m a : Nat → Nat → Int) (c : Nat → Int)
    (h : ∀ pre i post, s = pre ++ i :: post → ∃ l : List (Int × (Nat → Int)), (∀ q ∈ l, ∃ k ∈ pre, q.2 = a k) ∧ ∀ j, j < n → m i j = c i * a i j + comb l j) (ω : Om) :
    EqN n (prodW n (L.map m) ω) fun T => prodL (L.map c) * prodW n (L.map a) ω T := by
  have tri : ∀ (k : Nat) (pre post : List Nat), pre.length = k → s = pre ++ post → Tri n (pre.map m) (pre.map a) (prodL (pre.map c)) := by
    intro k
    induction k with
    | zero => intro pre post hl _; have := List.length_eq_zero_iff.mp hl; subst this; exact .nil
    | succ k ih =>
      intro pre post hl hs
      have hne : pre ≠ [] := fun q => by rw [q] at hl; cases hl
      have e := List.dropLast_concat_getLast hne
      generalize pre.dropLast = pr at e
      generalize pre.getLast hne = i at e
      subst e
      obtain ⟨l, h1, h2⟩ := h pr i post (by rw [hs]; simp)
      rw [List.map_append, List.map_append, List.map_append, List.map_cons, List.map_nil, List.map_cons, List.map_nil, List.map_cons, List.map_nil, prodL_snoc]
      refine .snoc l (ih pr (i :: post) (by simpa using hl) (by rw [hs]; simp)) (fun q hq => ?_) h2
      obtain ⟨k', hk, e⟩ := h1 q hq
      rw [e]; exact List.mem_map_of_mem hk
  have t := (tri _ s [] rfl (by simp)).prod ω
  obtain ⟨ε, e1, e2⟩ := prodW_perm (n := n) hp
  intro T hT
  rw [e2 m ω T, t T hT]
  show ε * (prodL (s.map c) * prodW n (s.map a) ω T) = prodL (L.map c) * prodW n (L.map a) ω T
  rw [e2 a ω T, prodL_perm (hp.map c), Int.mul_left_comm]
noncomputable def unit (i : Nat) : Nat → Int := fun j => if j = i then 1 else 0
noncomputable def delta0 : Om := fun T => if T.all (fun b => !b) then 1 else 0

theorem sum_split {s pre post : List Nat} {i : Nat} {p : Nat → Bool} {f : Nat → Int} (hs : s = pre ++ i :: post) (hi : p i = true) (hpost : ∀ k ∈ post, p k = false) : sumL f (s.filter p) = f i + sumL f (pre.filter p) := by
  subst hs
  rw [List.filter_append, List.filter_cons, if_pos hi, sumL_append, sumL]
  have : post.filter p = [] := List.filter_eq_nil_iff.mpr fun k hk => by rw [hpost k hk]; exact Bool.false_ne_true
  rw [this, sumL]; omega
theorem range_nodup (n : Nat) : (List.range n).Nodup := List.nodup_range
/-- one triangular change of vectors along an order -/
theorem tri_le {n : Nat} (rel : Nat → Nat → Bool) (val : Nat → Int) (hr : ∀ i, i < n → rel i i = true) (hlt : ∀ k i, k < n → i < n → k ≠ i → rel k i = true → val k < val i)
    (m a : Nat → Nat → Int) (g : Nat → Nat → Int) (hm : ∀ i, i < n → ∀ j, j < n → m i j = sumL (fun k => g i k * a k j) ((List.range n).filter fun k => rel k i)) (ω : Om) :
    EqN n (prodW n ((List.range n).map m) ω) fun T => prodL ((List.range n).map fun i => g i i) * prodW n ((List.range n).map a) ω T := by
  let s := (List.range n).mergeSort (fun i j => decide (val i ≤ val j))
  have hp : (List.range n).Perm s := (List.mergeSort_perm _ _).symm
  have hw : s.Pairwise (fun i j => val i ≤ val j) := by
    have := List.pairwise_mergeSort (le := fun i j => decide (val i ≤ val j)) (fun a b c h1 h2 => by simp only [decide_eq_true_eq] at *; omega) (fun a b => by simp only [Bool.or_eq_true, decide_eq_true_eq]; omega) (List.range n)
    exact this.imp fun h => of_decide_eq_true h
  have hnd : s.Nodup := hp.nodup_iff.mp (range_nodup n)
  refine tri_perm hp m a (fun i => g i i) (fun pre i post hs => ?_) ω
  have mem : ∀ k, k ∈ s ↔ k < n := fun k => by rw [← hp.mem_iff]; exact List.mem_range
  have hi : i < n := (mem i).mp (by rw [hs]; simp)
  have hpost : ∀ k ∈ post, rel k i = false := fun k hk => by
    have hks : k ∈ s := by rw [hs]; simp [hk]
    cases q : rel k i with
    | false => rfl
    | true =>
      have hne : k ≠ i := fun e => by
        rw [hs] at hnd
        have := (List.nodup_append.mp hnd).2.1
        rw [← e] at this
        exact (List.nodup_cons.mp this).1 hk
      have h1 := hlt k i ((mem k).mp hks) hi hne q
      rw [hs] at hw
      have h2 := (List.pairwise_cons.mp (List.pairwise_append.mp hw).2.1).1 k hk
      omega
  refine ⟨(pre.filter fun k => rel k i).map fun k => (g i k, a k), fun q hq => ?_, fun j hj => ?_⟩
  · obtain ⟨k, hk, e⟩ := List.mem_map.mp hq
    exact ⟨k, (List.mem_filter.mp hk).1, by rw [← e]⟩
  · rw [hm i hi j hj, sumL_perm (hp.filter _), sum_split (p := fun k => rel k i) hs (hr i hi) hpost, comb_map]

/-- the unit vectors -/
theorem W_unit_top {n : Nat} (ω : Om) (b : Bool) (T : List Bool) (hT : T.length = n) : W (n + 1) (unit n) ω (b :: T) = if b then ω (false :: T) else 0 := by
  have z : ∀ (k : Nat), k ≤ n → ∀ (ω : Om) (T : List Bool), W k (unit n) ω T = 0 := by
    intro k
    induction k with
    | zero => intro _ ω T; rfl
    | succ k ih =>
      intro hk ω T
      cases T with
      | nil => rfl
      | cons b T =>
        cases b with
        | false => simp only [W, Bool.false_eq_true, if_false]; exact ih (by omega) _ T
        | true => simp only [W, if_true]; rw [ih (by omega)]; simp [unit, show k ≠ n by omega]
  cases b with
  | false => simp only [W, Bool.false_eq_true, if_false]; exact z n (Nat.le_refl _) _ T
  | true => simp only [W, if_true]; rw [z n (Nat.le_refl _)]; simp [unit]
theorem prod_units_low (n : Nat) (l : List Nat) (hl : ∀ i ∈ l, i < n) (ω : Om) (T : List Bool) : prodW (n + 1) (l.map unit) ω (false :: T) = prodW n (l.map unit) (fun S => ω (false :: S)) T := by
  induction l generalizing ω with
  | nil => rfl
  | cons i l ih =>
    rw [List.map_cons, prodW_cons, prodW_cons, ih (fun k hk => hl k (List.mem_cons_of_mem _ hk))]
    rfl
theorem prod_units (n : Nat) : prodW n ((List.range n).map unit) delta0 (List.replicate n true) = 1 := by
  induction n with
  | zero => rfl
  | succ n ih =>
    rw [List.range_succ, List.map_append, List.map_cons, List.map_nil, prodW_snoc, List.replicate_succ, W_unit_top _ _ _ (by simp), if_pos rfl,
      prod_units_low n _ (fun i hi => List.mem_range.mp hi)]
    have : (fun S => delta0 (false :: S)) = delta0 := by funext S; simp [delta0]
    rw [this]; exact ih

/-- the law, in plain numbers -/
theorem det_eq {n : Nat} (le : Nat → Nat → Bool) (val : Nat → Int) (hr : ∀ i, i < n → le i i = true) (hlt : ∀ k i, k < n → i < n → k ≠ i → le k i = true → val k < val i)
    (m g : Nat → Nat → Int) (hm : ∀ i, i < n → ∀ j, j < n → m i j = sumL (g i) ((List.range n).filter fun k => le k i && le k j)) :
    prodW n ((List.range n).map m) delta0 (List.replicate n true) = prodL ((List.range n).map fun i => g i i) := by
  have e1 := tri_le le val hr hlt m (fun k j => if le k j then 1 else 0) g (fun i hi j hj => by
    rw [hm i hi j hj]
    rw [show (fun k => le k i && le k j) = fun k => (le k j && le k i) from funext fun k => Bool.and_comm _ _]
    rw [← List.filter_filter]
    rw [sumL_filter]
    exact sumL_congr fun k _ => Int.mul_comm _ _) delta0
  have e2 := tri_le (n := n) (fun k i => le i k) (fun i => - val i) hr (fun k i hk hi hne h => by have := hlt i k hi hk (Ne.symm hne) h; omega)
    (fun k j => if le k j then 1 else 0) unit (fun _ _ => 1) (fun i hi j hj => by
      rw [sumL_filter]
      have key : ∀ (n : Nat), j < n → sumL (fun k => (if le i k = true then (1 : Int) else 0) * (1 * unit k j)) (List.range n) = if le i j = true then 1 else 0 := by
        intro n
        induction n with
        | zero => intro h; omega
        | succ n ih =>
          intro h
          rw [List.range_succ, sumL_append]
          by_cases q : j = n
          · subst q
            have : sumL (fun k => (if le i k = true then (1 : Int) else 0) * (1 * unit k j)) (List.range j) = 0 := by
              have z : ∀ (l : List Nat), (∀ k ∈ l, k ≠ j) → sumL (fun k => (if le i k = true then (1 : Int) else 0) * (1 * unit k j)) l = 0 := by
                intro l
                induction l with
                | nil => intro _; rfl
                | cons x l ih => intro h; simp only [sumL]; rw [ih fun k hk => h k (List.mem_cons_of_mem _ hk)]; have := h x List.mem_cons_self; simp [unit, Ne.symm this]
              exact z _ fun k hk => by have := List.mem_range.mp hk; omega
            rw [this]; simp [sumL, unit]
          · rw [ih (by omega)]; simp [sumL, unit, q]
      exact (key n hj).symm) delta0
  have hl : (List.replicate n true).length = n := by simp
  rw [e1 _ hl]
  show _ * prodW n _ delta0 _ = _
  rw [e2 _ hl]
  have ones : prodL ((List.range n).map fun i => (fun _ _ => 1 : Nat → Nat → Int) i i) = 1 := by
    have : ∀ l : List Nat, prodL (l.map fun i => (fun _ _ => 1 : Nat → Nat → Int) i i) = 1 := by
      intro l
      induction l with
      | nil => rfl
      | cons x l ih => simp only [List.map_cons, prodL, ih]; rfl
    exact this _
  show _ * (_ * prodW n ((List.range n).map unit) delta0 _) = _
  rw [ones, prod_units]; omega
end Mine
end

section
open PySem PySem.W PyProof.Rows
set_option Elab.async false
set_option linter.unusedVariables false
set_option maxRecDepth 100000
namespace Mine.Hd
/-! the head, by hand: the objects that stand when the top has run, and the run itself -/
noncomputable def de (P : Params) (x : Str) (t : Tok) (v : Value) : DictEntry := ⟨PyData.keyHash P x, .str x t, v⟩
noncomputable def ns0 (P : Params) : List DictEntry := match (boot_o_3 P).data with
  | .dict es _ => es.toList.drop 1
  | _ => []
noncomputable def lf (o : Obj) : BT := .node o .nil .nil
noncomputable abbrev rp : Program := PySem.Challenge.rw_om0086_01.row.toRowW.prog
noncomputable def cl (i : Nat) : Stmt := PySem.Challenge.pw_om0086_01.main.body.getD i (.Pass ⟨0, 0, 0, 0⟩)
noncomputable def cl2 (i j : Nat) : Stmt := match cl i with
  | .ClassDef _ _ _ b _ _ _ _ _ _ _ => b.getD j (.Pass ⟨0, 0, 0, 0⟩)
  | s => s
noncomputable def fD (s : Stmt) (q : Str) (g : Addr) (dv pm cd : Value) : FuncData := match s with
  | .FunctionDef n a b _ _ _ sc _ _ _ => ⟨n, q, a, .stmts b, sc, g, [], dv, .none, .none, pm, none, cd, .none, 0⟩
  | _ => default
noncomputable def o3 (P : Params) : Obj := ⟨.type "dict", .none, .dict (de P "__name__" 165 (.str "law_om0086_01" 425) :: (ns0 P ++ [de P "_wall" 193 (.ref 21), de P "_initial_missing" 196 (.ref 22), de P "reduce" 208 (.ref 30), de P "_NODE_OUT" 213 (.int (-1) 212), de P "_NODE_DONE" 216 (.int (-2) 215), de P "_NodeInfo" 253 (.ref 49), de P "CycleError" 271 (.ref 64), de P "TopologicalSorter" 390 (.ref 146), de P "and_" 400 (.ref 157), de P "mul" 408 (.ref 164), de P "sub" 416 (.ref 171), de P "getitem" 424 (.ref 178), de P "_law_family" 432 (.ref 183), de P "_law_wedge" 445 (.ref 190), de P "law" 451 (.ref 195)])).toArray 24, #[]⟩
noncomputable def o11 (P : Params) : Obj := ⟨.type "tuple", .none, .seq #[] 0, #[]⟩
noncomputable def o12 (P : Params) : Obj := ⟨.none, .none, .fields #[.int 1 0, .int 0 0, .ref 20, .int 6 0, .int 0 0, .ref 29, .int 21 0, .int 0 0, .ref 36, .int 28 0, .int 0 0, .ref 60, .int 30 0, .int 0 0, .ref 73, .int 137 0, .int 0 0, .ref 156, .int 139 0, .int 0 0, .ref 163, .int 141 0, .int 0 0, .ref 170, .int 143 0, .int 0 0, .ref 177, .int 146 0, .int 0 0, .ref 182, .int 156 0, .int 0 0, .ref 189, .int 167 0, .int 0 0, .ref 194], #[]⟩
noncomputable def o13 (P : Params) : Obj := ⟨.type "code", .none, .fields #[.str "<module>" 182, .str "<module>" 183, .str "/claim/cut.py" 184, .int 1 0, .int 0 0, .int 0 0, .int 0 0, .int 0 0, .ref 11, .bool .false, .int 181 0, .ref 12, .none, .none, .none, .none, .int 185 0, .int 1 0, .str "/claim/cut.py" 186], #[]⟩
noncomputable def o14 (P : Params) : Obj := ⟨.type "frame", .none, .plain, #[.some (.ref 13), .some (.ref 3), .some (.ref 3), .none, .some (.str "__main__" 164), .none, .some (.ref 0)]⟩
noncomputable def o15 (P : Params) : Obj := ⟨.type "tuple", .none, .seq #[] 0, #[]⟩
noncomputable def o16 (P : Params) : Obj := ⟨.none, .none, .fields #[], #[]⟩
noncomputable def o17 (P : Params) : Obj := ⟨.type "tuple", .none, .seq #[.str "k" 190] 0, #[]⟩
noncomputable def o18 (P : Params) : Obj := ⟨.type "tuple", .none, .seq #[] 0, #[]⟩
noncomputable def o19 (P : Params) : Obj := ⟨.none, .none, .func (fD (cl 0) "_wall" 0 .none .none .none), #[]⟩
noncomputable def o20 (P : Params) : Obj := ⟨.type "code", .none, .fields #[.str "_wall" 187, .str "_wall" 188, .str "/claim/cut.py" 189, .int 1 0, .int 1 0, .int 0 0, .int 0 0, .int 3 0, .ref 15, .bool .true, .int 181 0, .ref 16, .none, .ref 17, .ref 18, .ref 19, .int 191 0, .int 1 0, .str "/claim/cut.py" 192], #[]⟩
noncomputable def o21 (P : Params) : Obj := ⟨.type "function", .none, .func (fD (cl 0) "_wall" 3 .none (.str "__main__" 164) (.ref 20)), #[]⟩
noncomputable def o22 (P : Params) : Obj := ⟨.type "object", .none, .plain, #[]⟩
noncomputable def o23 (P : Params) : Obj := ⟨.type "tuple", .none, .seq #[.ref 22] 0, #[]⟩
noncomputable def o24 (P : Params) : Obj := ⟨.type "tuple", .none, .seq #[] 0, #[]⟩
noncomputable def o25 (P : Params) : Obj := ⟨.none, .none, .fields #[], #[]⟩
noncomputable def o26 (P : Params) : Obj := ⟨.type "tuple", .none, .seq #[.str "function" 200, .str "sequence" 201, .str "initial" 202, .str "it" 203, .str "value" 204, .str "element" 205] 0, #[]⟩
noncomputable def o27 (P : Params) : Obj := ⟨.type "tuple", .none, .seq #[] 0, #[]⟩
noncomputable def o28 (P : Params) : Obj := ⟨.none, .none, .func (fD (cl 3) "reduce" 0 .none .none .none), #[]⟩
noncomputable def o29 (P : Params) : Obj := ⟨.type "code", .none, .fields #[.str "reduce" 197, .str "reduce" 198, .str "/claim/cut.py" 199, .int 6 0, .int 3 0, .int 0 0, .int 0 0, .int 3 0, .ref 24, .bool .true, .int 181 0, .ref 25, .none, .ref 26, .ref 27, .ref 28, .int 206 0, .int 6 0, .str "/claim/cut.py" 207], #[]⟩
noncomputable def o30 (P : Params) : Obj := ⟨.type "function", .none, .func (fD (cl 3) "reduce" 3 (.ref 23) (.str "cpy313.functools" 194) (.ref 29)), #[]⟩
noncomputable def o31 (P : Params) : Obj := ⟨.type "tuple", .none, .seq #[] 0, #[]⟩
noncomputable def o32 (P : Params) : Obj := ⟨.type "builtin_function_or_method", .none, .fields #[.builtin "type.__prepare__", .type "type"], #[]⟩
noncomputable def o33 (P : Params) : Obj := ⟨.type "dict", .none, .dict #[de P "__module__" 224 (.str "cpy313.graphlib" 209), de P "__qualname__" 226 (.str "_NodeInfo" 225), de P "__firstlineno__" 228 (.int 21 227), de P "__slots__" 232 (.ref 38), de P "__init__" 240 (.ref 45), de P "__static_attributes__" 244 (.ref 46)] 6, #[]⟩
noncomputable def o34 (P : Params) : Obj := ⟨.type "tuple", .none, .seq #[] 0, #[]⟩
noncomputable def o35 (P : Params) : Obj := ⟨.none, .none, .fields #[.int 24 0, .int 4 0, .ref 44], #[]⟩
noncomputable def o36 (P : Params) : Obj := ⟨.type "code", .none, .fields #[.str "_NodeInfo" 219, .str "_NodeInfo" 220, .str "/claim/cut.py" 221, .int 21 0, .int 0 0, .int 0 0, .int 0 0, .int 0 0, .ref 34, .bool .false, .int 181 0, .ref 35, .none, .none, .none, .none, .int 222 0, .int 21 0, .str "/claim/cut.py" 223], #[]⟩
noncomputable def o37 (P : Params) : Obj := ⟨.type "frame", .none, .plain, #[.some (.ref 36), .some (.ref 3), .some (.ref 33), .none, .some (.str "cpy313.graphlib" 209), .none, .some (.ref 0)]⟩
noncomputable def o38 (P : Params) : Obj := ⟨.type "tuple", .none, .seq #[.str "node" 229, .str "npredecessors" 230, .str "successors" 231] 0, #[]⟩
noncomputable def o39 (P : Params) : Obj := ⟨.type "tuple", .none, .seq #[] 0, #[]⟩
noncomputable def o40 (P : Params) : Obj := ⟨.none, .none, .fields #[], #[]⟩
noncomputable def o41 (P : Params) : Obj := ⟨.type "tuple", .none, .seq #[.str "self" 236, .str "node" 237] 0, #[]⟩
noncomputable def o42 (P : Params) : Obj := ⟨.type "tuple", .none, .seq #[] 0, #[]⟩
noncomputable def o43 (P : Params) : Obj := ⟨.none, .none, .func (fD (cl2 7 1) "_NodeInfo.__init__" 0 .none .none .none), #[]⟩
noncomputable def o44 (P : Params) : Obj := ⟨.type "code", .none, .fields #[.str "__init__" 233, .str "_NodeInfo.__init__" 234, .str "/claim/cut.py" 235, .int 24 0, .int 2 0, .int 0 0, .int 0 0, .int 3 0, .ref 39, .bool .true, .int 181 0, .ref 40, .none, .ref 41, .ref 42, .ref 43, .int 238 0, .int 24 0, .str "/claim/cut.py" 239], #[]⟩
noncomputable def o45 (P : Params) : Obj := ⟨.type "function", .none, .func (fD (cl2 7 1) "_NodeInfo.__init__" 3 .none (.str "cpy313.graphlib" 209) (.ref 44)), #[]⟩
noncomputable def o46 (P : Params) : Obj := ⟨.type "tuple", .none, .seq #[.str "node" 241, .str "npredecessors" 242, .str "successors" 243] 0, #[]⟩
noncomputable def o47 (P : Params) : Obj := ⟨.type "list", .none, .seq #[.str "node" 229, .str "npredecessors" 230, .str "successors" 231] 1, #[]⟩
noncomputable def o48 (P : Params) : Obj := ⟨.type "dict", .none, .dict #[de P "__module__" 224 (.str "cpy313.graphlib" 209), de P "__firstlineno__" 228 (.int 21 227), de P "__slots__" 232 (.ref 38), de P "__init__" 240 (.ref 45), de P "__static_attributes__" 244 (.ref 46), de P "node" 246 (.ref 50), de P "npredecessors" 248 (.ref 51), de P "successors" 250 (.ref 52), de P "__doc__" 251 .none] 5, #[]⟩
noncomputable def o49 (P : Params) : Obj := ⟨.type "type", .none, .cls ⟨"_NodeInfo", [.type "object"], [.ref 49, .type "object"], 48, "_NodeInfo", .false, ["node", "npredecessors", "successors"], [], .false, .none, .false⟩, #[.none, .none, .some (.str "_NodeInfo" 217), .some (.str "_NodeInfo" 225), .some (.builtin "object.__new__"), .some (.bool .false)]⟩
noncomputable def o50 (P : Params) : Obj := ⟨.type "member_descriptor", .none, .fields #[.str "node" 245, .ref 49, .builtin "proto.slot", .builtin "proto.slot#set", .int 2 0], #[]⟩
noncomputable def o51 (P : Params) : Obj := ⟨.type "member_descriptor", .none, .fields #[.str "npredecessors" 247, .ref 49, .builtin "proto.slot", .builtin "proto.slot#set", .int 1 0], #[]⟩
noncomputable def o52 (P : Params) : Obj := ⟨.type "member_descriptor", .none, .fields #[.str "successors" 249, .ref 49, .builtin "proto.slot", .builtin "proto.slot#set", .int 0 0], #[]⟩
noncomputable def o53 (P : Params) : Obj := ⟨.type "super", .none, .fields #[.ref 49, .ref 49, .ref 49], #[]⟩
noncomputable def o54 (P : Params) : Obj := ⟨.type "builtin_function_or_method", .none, .fields #[.builtin "object.__init_subclass__", .ref 49], #[]⟩
noncomputable def o55 (P : Params) : Obj := ⟨.type "tuple", .none, .seq #[.type "ValueError"] 0, #[]⟩
noncomputable def o56 (P : Params) : Obj := ⟨.type "builtin_function_or_method", .none, .fields #[.builtin "type.__prepare__", .type "type"], #[]⟩
noncomputable def o57 (P : Params) : Obj := ⟨.type "dict", .none, .dict #[de P "__module__" 261 (.str "cpy313.graphlib" 209), de P "__qualname__" 263 (.str "CycleError" 262), de P "__firstlineno__" 265 (.int 28 264), de P "__static_attributes__" 266 (.ref 62)] 4, #[]⟩
noncomputable def o58 (P : Params) : Obj := ⟨.type "tuple", .none, .seq #[] 0, #[]⟩
noncomputable def o59 (P : Params) : Obj := ⟨.none, .none, .fields #[], #[]⟩
noncomputable def o60 (P : Params) : Obj := ⟨.type "code", .none, .fields #[.str "CycleError" 256, .str "CycleError" 257, .str "/claim/cut.py" 258, .int 28 0, .int 0 0, .int 0 0, .int 0 0, .int 0 0, .ref 58, .bool .false, .int 181 0, .ref 59, .none, .none, .none, .none, .int 259 0, .int 28 0, .str "/claim/cut.py" 260], #[]⟩
noncomputable def o61 (P : Params) : Obj := ⟨.type "frame", .none, .plain, #[.some (.ref 60), .some (.ref 3), .some (.ref 57), .none, .some (.str "cpy313.graphlib" 209), .none, .some (.ref 0)]⟩
noncomputable def o62 (P : Params) : Obj := ⟨.type "tuple", .none, .seq #[] 0, #[]⟩
noncomputable def o63 (P : Params) : Obj := ⟨.type "dict", .none, .dict #[de P "__module__" 261 (.str "cpy313.graphlib" 209), de P "__firstlineno__" 265 (.int 28 264), de P "__static_attributes__" 266 (.ref 62), de P "__weakref__" 268 (.ref 65), de P "__doc__" 269 .none] 3, #[]⟩
noncomputable def o64 (P : Params) : Obj := ⟨.type "type", .none, .cls ⟨"CycleError", [.type "ValueError"], [.ref 64, .type "ValueError", .type "Exception", .type "BaseException", .type "object"], 63, "CycleError", .true, [], [], .false, .none, .false⟩, #[.some (.ref 55), .none, .some (.str "CycleError" 254), .some (.str "CycleError" 262), .some (.builtin "ValueError.__new__"), .some (.bool .true)]⟩
noncomputable def o65 (P : Params) : Obj := ⟨.type "getset_descriptor", .none, .fields #[.str "__weakref__" 267, .ref 64, .builtin "ExceptionGroup.__weakref__", .none], #[]⟩
noncomputable def o66 (P : Params) : Obj := ⟨.type "super", .none, .fields #[.ref 64, .ref 64, .ref 64], #[]⟩
noncomputable def o67 (P : Params) : Obj := ⟨.type "builtin_function_or_method", .none, .fields #[.builtin "object.__init_subclass__", .ref 64], #[]⟩
noncomputable def o68 (P : Params) : Obj := ⟨.type "tuple", .none, .seq #[] 0, #[]⟩
noncomputable def o69 (P : Params) : Obj := ⟨.type "builtin_function_or_method", .none, .fields #[.builtin "type.__prepare__", .type "type"], #[]⟩
noncomputable def o70 (P : Params) : Obj := ⟨.type "dict", .none, .dict #[de P "__module__" 279 (.str "cpy313.graphlib" 209), de P "__qualname__" 281 (.str "TopologicalSorter" 280), de P "__firstlineno__" 283 (.int 30 282), de P "__init__" 293 (.ref 82), de P "_get_nodeinfo" 302 (.ref 89), de P "add" 314 (.ref 96), de P "prepare" 320 (.ref 101), de P "get_ready" 330 (.ref 108), de P "is_active" 337 (.ref 115), de P "__bool__" 344 (.ref 122), de P "done" 358 (.ref 129), de P "_find_cycle" 371 (.ref 136), de P "static_order" 378 (.ref 143), de P "__static_attributes__" 383 (.ref 144)] 14, #[]⟩
noncomputable def o71 (P : Params) : Obj := ⟨.type "tuple", .none, .seq #[] 0, #[]⟩
noncomputable def o72 (P : Params) : Obj := ⟨.none, .none, .fields #[.int 32 0, .int 4 0, .ref 81, .int 41 0, .int 4 0, .ref 88, .int 46 0, .int 4 0, .ref 95, .int 55 0, .int 4 0, .ref 100, .int 63 0, .int 4 0, .ref 107, .int 74 0, .int 4 0, .ref 114, .int 79 0, .int 4 0, .ref 121, .int 82 0, .int 4 0, .ref 128, .int 105 0, .int 4 0, .ref 135, .int 134 0, .int 4 0, .ref 142], #[]⟩
noncomputable def o73 (P : Params) : Obj := ⟨.type "code", .none, .fields #[.str "TopologicalSorter" 274, .str "TopologicalSorter" 275, .str "/claim/cut.py" 276, .int 30 0, .int 0 0, .int 0 0, .int 0 0, .int 0 0, .ref 71, .bool .false, .int 181 0, .ref 72, .none, .none, .none, .none, .int 277 0, .int 30 0, .str "/claim/cut.py" 278], #[]⟩
noncomputable def o74 (P : Params) : Obj := ⟨.type "frame", .none, .plain, #[.some (.ref 73), .some (.ref 3), .some (.ref 70), .none, .some (.str "cpy313.graphlib" 209), .none, .some (.ref 0)]⟩
noncomputable def o75 (P : Params) : Obj := ⟨.type "tuple", .none, .seq #[.none] 0, #[]⟩
noncomputable def o76 (P : Params) : Obj := ⟨.type "tuple", .none, .seq #[] 0, #[]⟩
noncomputable def o77 (P : Params) : Obj := ⟨.none, .none, .fields #[], #[]⟩
noncomputable def o78 (P : Params) : Obj := ⟨.type "tuple", .none, .seq #[.str "self" 287, .str "graph" 288, .str "node" 289, .str "predecessors" 290] 0, #[]⟩
noncomputable def o79 (P : Params) : Obj := ⟨.type "tuple", .none, .seq #[] 0, #[]⟩
noncomputable def o80 (P : Params) : Obj := ⟨.none, .none, .func (fD (cl2 9 0) "TopologicalSorter.__init__" 0 .none .none .none), #[]⟩
noncomputable def o81 (P : Params) : Obj := ⟨.type "code", .none, .fields #[.str "__init__" 284, .str "TopologicalSorter.__init__" 285, .str "/claim/cut.py" 286, .int 32 0, .int 2 0, .int 0 0, .int 0 0, .int 3 0, .ref 76, .bool .true, .int 181 0, .ref 77, .none, .ref 78, .ref 79, .ref 80, .int 291 0, .int 32 0, .str "/claim/cut.py" 292], #[]⟩
noncomputable def o82 (P : Params) : Obj := ⟨.type "function", .none, .func (fD (cl2 9 0) "TopologicalSorter.__init__" 3 (.ref 75) (.str "cpy313.graphlib" 209) (.ref 81)), #[]⟩
noncomputable def o83 (P : Params) : Obj := ⟨.type "tuple", .none, .seq #[] 0, #[]⟩
noncomputable def o84 (P : Params) : Obj := ⟨.none, .none, .fields #[], #[]⟩
noncomputable def o85 (P : Params) : Obj := ⟨.type "tuple", .none, .seq #[.str "self" 297, .str "node" 298, .str "result" 299] 0, #[]⟩
noncomputable def o86 (P : Params) : Obj := ⟨.type "tuple", .none, .seq #[] 0, #[]⟩
noncomputable def o87 (P : Params) : Obj := ⟨.none, .none, .func (fD (cl2 9 1) "TopologicalSorter._get_nodeinfo" 0 .none .none .none), #[]⟩
noncomputable def o88 (P : Params) : Obj := ⟨.type "code", .none, .fields #[.str "_get_nodeinfo" 294, .str "TopologicalSorter._get_nodeinfo" 295, .str "/claim/cut.py" 296, .int 41 0, .int 2 0, .int 0 0, .int 0 0, .int 3 0, .ref 83, .bool .true, .int 181 0, .ref 84, .none, .ref 85, .ref 86, .ref 87, .int 300 0, .int 41 0, .str "/claim/cut.py" 301], #[]⟩
noncomputable def o89 (P : Params) : Obj := ⟨.type "function", .none, .func (fD (cl2 9 1) "TopologicalSorter._get_nodeinfo" 3 .none (.str "cpy313.graphlib" 209) (.ref 88)), #[]⟩
noncomputable def o90 (P : Params) : Obj := ⟨.type "tuple", .none, .seq #[] 0, #[]⟩
noncomputable def o91 (P : Params) : Obj := ⟨.none, .none, .fields #[], #[]⟩
noncomputable def o92 (P : Params) : Obj := ⟨.type "tuple", .none, .seq #[.str "self" 306, .str "node" 307, .str "predecessors" 308, .str "nodeinfo" 309, .str "pred" 310, .str "pred_info" 311] 0, #[]⟩
noncomputable def o93 (P : Params) : Obj := ⟨.type "tuple", .none, .seq #[] 0, #[]⟩
noncomputable def o94 (P : Params) : Obj := ⟨.none, .none, .func (fD (cl2 9 2) "TopologicalSorter.add" 0 .none .none .none), #[]⟩
noncomputable def o95 (P : Params) : Obj := ⟨.type "code", .none, .fields #[.str "add" 303, .str "TopologicalSorter.add" 304, .str "/claim/cut.py" 305, .int 46 0, .int 2 0, .int 0 0, .int 0 0, .int 7 0, .ref 90, .bool .true, .int 181 0, .ref 91, .none, .ref 92, .ref 93, .ref 94, .int 312 0, .int 46 0, .str "/claim/cut.py" 313], #[]⟩
noncomputable def o96 (P : Params) : Obj := ⟨.type "function", .none, .func (fD (cl2 9 2) "TopologicalSorter.add" 3 .none (.str "cpy313.graphlib" 209) (.ref 95)), #[]⟩
noncomputable def o97 (P : Params) : Obj := ⟨.type "tuple", .none, .seq #[] 0, #[]⟩
noncomputable def o98 (P : Params) : Obj := ⟨.none, .none, .fields #[], #[]⟩
noncomputable def o99 (P : Params) : Obj := ⟨.none, .none, .func (fD (cl2 9 3) "TopologicalSorter.prepare" 0 .none .none .none), #[]⟩
noncomputable def o100 (P : Params) : Obj := ⟨.type "code", .none, .fields #[.str "prepare" 315, .str "TopologicalSorter.prepare" 316, .str "/claim/cut.py" 317, .int 55 0, .int 1 0, .int 0 0, .int 0 0, .int 3 0, .ref 97, .bool .true, .int 181 0, .ref 98, .none, .none, .none, .ref 99, .int 318 0, .int 55 0, .str "/claim/cut.py" 319], #[]⟩
noncomputable def o101 (P : Params) : Obj := ⟨.type "function", .none, .func (fD (cl2 9 3) "TopologicalSorter.prepare" 3 .none (.str "cpy313.graphlib" 209) (.ref 100)), #[]⟩
noncomputable def o102 (P : Params) : Obj := ⟨.type "tuple", .none, .seq #[] 0, #[]⟩
noncomputable def o103 (P : Params) : Obj := ⟨.none, .none, .fields #[], #[]⟩
noncomputable def o104 (P : Params) : Obj := ⟨.type "tuple", .none, .seq #[.str "self" 324, .str "result" 325, .str "n2i" 326, .str "node" 327] 0, #[]⟩
noncomputable def o105 (P : Params) : Obj := ⟨.type "tuple", .none, .seq #[] 0, #[]⟩
noncomputable def o106 (P : Params) : Obj := ⟨.none, .none, .func (fD (cl2 9 4) "TopologicalSorter.get_ready" 0 .none .none .none), #[]⟩
noncomputable def o107 (P : Params) : Obj := ⟨.type "code", .none, .fields #[.str "get_ready" 321, .str "TopologicalSorter.get_ready" 322, .str "/claim/cut.py" 323, .int 63 0, .int 1 0, .int 0 0, .int 0 0, .int 3 0, .ref 102, .bool .true, .int 181 0, .ref 103, .none, .ref 104, .ref 105, .ref 106, .int 328 0, .int 63 0, .str "/claim/cut.py" 329], #[]⟩
noncomputable def o108 (P : Params) : Obj := ⟨.type "function", .none, .func (fD (cl2 9 4) "TopologicalSorter.get_ready" 3 .none (.str "cpy313.graphlib" 209) (.ref 107)), #[]⟩
noncomputable def o109 (P : Params) : Obj := ⟨.type "tuple", .none, .seq #[] 0, #[]⟩
noncomputable def o110 (P : Params) : Obj := ⟨.none, .none, .fields #[], #[]⟩
noncomputable def o111 (P : Params) : Obj := ⟨.type "tuple", .none, .seq #[.str "self" 334] 0, #[]⟩
noncomputable def o112 (P : Params) : Obj := ⟨.type "tuple", .none, .seq #[] 0, #[]⟩
noncomputable def o113 (P : Params) : Obj := ⟨.none, .none, .func (fD (cl2 9 5) "TopologicalSorter.is_active" 0 .none .none .none), #[]⟩
noncomputable def o114 (P : Params) : Obj := ⟨.type "code", .none, .fields #[.str "is_active" 331, .str "TopologicalSorter.is_active" 332, .str "/claim/cut.py" 333, .int 74 0, .int 1 0, .int 0 0, .int 0 0, .int 3 0, .ref 109, .bool .true, .int 181 0, .ref 110, .none, .ref 111, .ref 112, .ref 113, .int 335 0, .int 74 0, .str "/claim/cut.py" 336], #[]⟩
noncomputable def o115 (P : Params) : Obj := ⟨.type "function", .none, .func (fD (cl2 9 5) "TopologicalSorter.is_active" 3 .none (.str "cpy313.graphlib" 209) (.ref 114)), #[]⟩
noncomputable def o116 (P : Params) : Obj := ⟨.type "tuple", .none, .seq #[] 0, #[]⟩
noncomputable def o117 (P : Params) : Obj := ⟨.none, .none, .fields #[], #[]⟩
noncomputable def o118 (P : Params) : Obj := ⟨.type "tuple", .none, .seq #[.str "self" 341] 0, #[]⟩
noncomputable def o119 (P : Params) : Obj := ⟨.type "tuple", .none, .seq #[] 0, #[]⟩
noncomputable def o120 (P : Params) : Obj := ⟨.none, .none, .func (fD (cl2 9 6) "TopologicalSorter.__bool__" 0 .none .none .none), #[]⟩
noncomputable def o121 (P : Params) : Obj := ⟨.type "code", .none, .fields #[.str "__bool__" 338, .str "TopologicalSorter.__bool__" 339, .str "/claim/cut.py" 340, .int 79 0, .int 1 0, .int 0 0, .int 0 0, .int 3 0, .ref 116, .bool .true, .int 181 0, .ref 117, .none, .ref 118, .ref 119, .ref 120, .int 342 0, .int 79 0, .str "/claim/cut.py" 343], #[]⟩
noncomputable def o122 (P : Params) : Obj := ⟨.type "function", .none, .func (fD (cl2 9 6) "TopologicalSorter.__bool__" 3 .none (.str "cpy313.graphlib" 209) (.ref 121)), #[]⟩
noncomputable def o123 (P : Params) : Obj := ⟨.type "tuple", .none, .seq #[] 0, #[]⟩
noncomputable def o124 (P : Params) : Obj := ⟨.none, .none, .fields #[], #[]⟩
noncomputable def o125 (P : Params) : Obj := ⟨.type "tuple", .none, .seq #[.str "self" 348, .str "nodes" 349, .str "n2i" 350, .str "node" 351, .str "nodeinfo" 352, .str "stat" 353, .str "successor" 354, .str "successor_info" 355] 0, #[]⟩
noncomputable def o126 (P : Params) : Obj := ⟨.type "tuple", .none, .seq #[] 0, #[]⟩
noncomputable def o127 (P : Params) : Obj := ⟨.none, .none, .func (fD (cl2 9 7) "TopologicalSorter.done" 0 .none .none .none), #[]⟩
noncomputable def o128 (P : Params) : Obj := ⟨.type "code", .none, .fields #[.str "done" 345, .str "TopologicalSorter.done" 346, .str "/claim/cut.py" 347, .int 82 0, .int 1 0, .int 0 0, .int 0 0, .int 7 0, .ref 123, .bool .true, .int 181 0, .ref 124, .none, .ref 125, .ref 126, .ref 127, .int 356 0, .int 82 0, .str "/claim/cut.py" 357], #[]⟩
noncomputable def o129 (P : Params) : Obj := ⟨.type "function", .none, .func (fD (cl2 9 7) "TopologicalSorter.done" 3 .none (.str "cpy313.graphlib" 209) (.ref 128)), #[]⟩
noncomputable def o130 (P : Params) : Obj := ⟨.type "tuple", .none, .seq #[] 0, #[]⟩
noncomputable def o131 (P : Params) : Obj := ⟨.none, .none, .fields #[], #[]⟩
noncomputable def o132 (P : Params) : Obj := ⟨.type "tuple", .none, .seq #[.str "self" 362, .str "n2i" 363, .str "stack" 364, .str "itstack" 365, .str "seen" 366, .str "node2stacki" 367, .str "node" 368] 0, #[]⟩
noncomputable def o133 (P : Params) : Obj := ⟨.type "tuple", .none, .seq #[] 0, #[]⟩
noncomputable def o134 (P : Params) : Obj := ⟨.none, .none, .func (fD (cl2 9 8) "TopologicalSorter._find_cycle" 0 .none .none .none), #[]⟩
noncomputable def o135 (P : Params) : Obj := ⟨.type "code", .none, .fields #[.str "_find_cycle" 359, .str "TopologicalSorter._find_cycle" 360, .str "/claim/cut.py" 361, .int 105 0, .int 1 0, .int 0 0, .int 0 0, .int 3 0, .ref 130, .bool .true, .int 181 0, .ref 131, .none, .ref 132, .ref 133, .ref 134, .int 369 0, .int 105 0, .str "/claim/cut.py" 370], #[]⟩
noncomputable def o136 (P : Params) : Obj := ⟨.type "function", .none, .func (fD (cl2 9 8) "TopologicalSorter._find_cycle" 3 .none (.str "cpy313.graphlib" 209) (.ref 135)), #[]⟩
noncomputable def o137 (P : Params) : Obj := ⟨.type "tuple", .none, .seq #[] 0, #[]⟩
noncomputable def o138 (P : Params) : Obj := ⟨.none, .none, .fields #[], #[]⟩
noncomputable def o139 (P : Params) : Obj := ⟨.type "tuple", .none, .seq #[.str "self" 375] 0, #[]⟩
noncomputable def o140 (P : Params) : Obj := ⟨.type "tuple", .none, .seq #[] 0, #[]⟩
noncomputable def o141 (P : Params) : Obj := ⟨.none, .none, .func (fD (cl2 9 9) "TopologicalSorter.static_order" 0 .none .none .none), #[]⟩
noncomputable def o142 (P : Params) : Obj := ⟨.type "code", .none, .fields #[.str "static_order" 372, .str "TopologicalSorter.static_order" 373, .str "/claim/cut.py" 374, .int 134 0, .int 1 0, .int 0 0, .int 0 0, .int 3 0, .ref 137, .bool .true, .int 181 0, .ref 138, .none, .ref 139, .ref 140, .ref 141, .int 376 0, .int 134 0, .str "/claim/cut.py" 377], #[]⟩
noncomputable def o143 (P : Params) : Obj := ⟨.type "function", .none, .func (fD (cl2 9 9) "TopologicalSorter.static_order" 3 .none (.str "cpy313.graphlib" 209) (.ref 142)), #[]⟩
noncomputable def o144 (P : Params) : Obj := ⟨.type "tuple", .none, .seq #[.str "_nfinished" 379, .str "_node2info" 380, .str "_npassedout" 381, .str "_ready_nodes" 382] 0, #[]⟩
noncomputable def o145 (P : Params) : Obj := ⟨.type "dict", .none, .dict #[de P "__module__" 279 (.str "cpy313.graphlib" 209), de P "__firstlineno__" 283 (.int 30 282), de P "__init__" 293 (.ref 82), de P "_get_nodeinfo" 302 (.ref 89), de P "add" 314 (.ref 96), de P "prepare" 320 (.ref 101), de P "get_ready" 330 (.ref 108), de P "is_active" 337 (.ref 115), de P "__bool__" 344 (.ref 122), de P "done" 358 (.ref 129), de P "_find_cycle" 371 (.ref 136), de P "static_order" 378 (.ref 143), de P "__static_attributes__" 383 (.ref 144), de P "__dict__" 385 (.ref 147), de P "__weakref__" 387 (.ref 148), de P "__doc__" 388 .none] 4, #[]⟩
noncomputable def o146 (P : Params) : Obj := ⟨.type "type", .none, .cls ⟨"TopologicalSorter", [.type "object"], [.ref 146, .type "object"], 145, "TopologicalSorter", .true, [], [], .false, .none, .false⟩, #[.none, .none, .some (.str "TopologicalSorter" 272), .some (.str "TopologicalSorter" 280), .some (.builtin "object.__new__"), .some (.bool .true)]⟩
noncomputable def o147 (P : Params) : Obj := ⟨.type "getset_descriptor", .none, .fields #[.str "__dict__" 384, .ref 146, .builtin "function.__dict__", .builtin "function.__dict__#set"], #[]⟩
noncomputable def o148 (P : Params) : Obj := ⟨.type "getset_descriptor", .none, .fields #[.str "__weakref__" 386, .ref 146, .builtin "ExceptionGroup.__weakref__", .none], #[]⟩
noncomputable def o149 (P : Params) : Obj := ⟨.type "super", .none, .fields #[.ref 146, .ref 146, .ref 146], #[]⟩
noncomputable def o150 (P : Params) : Obj := ⟨.type "builtin_function_or_method", .none, .fields #[.builtin "object.__init_subclass__", .ref 146], #[]⟩
noncomputable def o151 (P : Params) : Obj := ⟨.type "tuple", .none, .seq #[] 0, #[]⟩
noncomputable def o152 (P : Params) : Obj := ⟨.none, .none, .fields #[], #[]⟩
noncomputable def o153 (P : Params) : Obj := ⟨.type "tuple", .none, .seq #[.str "a" 396, .str "b" 397] 0, #[]⟩
noncomputable def o154 (P : Params) : Obj := ⟨.type "tuple", .none, .seq #[] 0, #[]⟩
noncomputable def o155 (P : Params) : Obj := ⟨.none, .none, .func (fD (cl 11) "and_" 0 .none .none .none), #[]⟩
noncomputable def o156 (P : Params) : Obj := ⟨.type "code", .none, .fields #[.str "and_" 393, .str "and_" 394, .str "/claim/cut.py" 395, .int 137 0, .int 2 0, .int 0 0, .int 0 0, .int 3 0, .ref 151, .bool .true, .int 181 0, .ref 152, .none, .ref 153, .ref 154, .ref 155, .int 398 0, .int 137 0, .str "/claim/cut.py" 399], #[]⟩
noncomputable def o157 (P : Params) : Obj := ⟨.type "function", .none, .func (fD (cl 11) "and_" 3 .none (.str "cpy313.operator" 391) (.ref 156)), #[]⟩
noncomputable def o158 (P : Params) : Obj := ⟨.type "tuple", .none, .seq #[] 0, #[]⟩
noncomputable def o159 (P : Params) : Obj := ⟨.none, .none, .fields #[], #[]⟩
noncomputable def o160 (P : Params) : Obj := ⟨.type "tuple", .none, .seq #[.str "a" 404, .str "b" 405] 0, #[]⟩
noncomputable def o161 (P : Params) : Obj := ⟨.type "tuple", .none, .seq #[] 0, #[]⟩
noncomputable def o162 (P : Params) : Obj := ⟨.none, .none, .func (fD (cl 12) "mul" 0 .none .none .none), #[]⟩
noncomputable def o163 (P : Params) : Obj := ⟨.type "code", .none, .fields #[.str "mul" 401, .str "mul" 402, .str "/claim/cut.py" 403, .int 139 0, .int 2 0, .int 0 0, .int 0 0, .int 3 0, .ref 158, .bool .true, .int 181 0, .ref 159, .none, .ref 160, .ref 161, .ref 162, .int 406 0, .int 139 0, .str "/claim/cut.py" 407], #[]⟩
noncomputable def o164 (P : Params) : Obj := ⟨.type "function", .none, .func (fD (cl 12) "mul" 3 .none (.str "cpy313.operator" 391) (.ref 163)), #[]⟩
noncomputable def o165 (P : Params) : Obj := ⟨.type "tuple", .none, .seq #[] 0, #[]⟩
noncomputable def o166 (P : Params) : Obj := ⟨.none, .none, .fields #[], #[]⟩
noncomputable def o167 (P : Params) : Obj := ⟨.type "tuple", .none, .seq #[.str "a" 412, .str "b" 413] 0, #[]⟩
noncomputable def o168 (P : Params) : Obj := ⟨.type "tuple", .none, .seq #[] 0, #[]⟩
noncomputable def o169 (P : Params) : Obj := ⟨.none, .none, .func (fD (cl 13) "sub" 0 .none .none .none), #[]⟩
noncomputable def o170 (P : Params) : Obj := ⟨.type "code", .none, .fields #[.str "sub" 409, .str "sub" 410, .str "/claim/cut.py" 411, .int 141 0, .int 2 0, .int 0 0, .int 0 0, .int 3 0, .ref 165, .bool .true, .int 181 0, .ref 166, .none, .ref 167, .ref 168, .ref 169, .int 414 0, .int 141 0, .str "/claim/cut.py" 415], #[]⟩
noncomputable def o171 (P : Params) : Obj := ⟨.type "function", .none, .func (fD (cl 13) "sub" 3 .none (.str "cpy313.operator" 391) (.ref 170)), #[]⟩
noncomputable def o172 (P : Params) : Obj := ⟨.type "tuple", .none, .seq #[] 0, #[]⟩
noncomputable def o173 (P : Params) : Obj := ⟨.none, .none, .fields #[], #[]⟩
noncomputable def o174 (P : Params) : Obj := ⟨.type "tuple", .none, .seq #[.str "a" 420, .str "b" 421] 0, #[]⟩
noncomputable def o175 (P : Params) : Obj := ⟨.type "tuple", .none, .seq #[] 0, #[]⟩
noncomputable def o176 (P : Params) : Obj := ⟨.none, .none, .func (fD (cl 14) "getitem" 0 .none .none .none), #[]⟩
noncomputable def o177 (P : Params) : Obj := ⟨.type "code", .none, .fields #[.str "getitem" 417, .str "getitem" 418, .str "/claim/cut.py" 419, .int 143 0, .int 2 0, .int 0 0, .int 0 0, .int 3 0, .ref 172, .bool .true, .int 181 0, .ref 173, .none, .ref 174, .ref 175, .ref 176, .int 422 0, .int 143 0, .str "/claim/cut.py" 423], #[]⟩
noncomputable def o178 (P : Params) : Obj := ⟨.type "function", .none, .func (fD (cl 14) "getitem" 3 .none (.str "cpy313.operator" 391) (.ref 177)), #[]⟩
noncomputable def o179 (P : Params) : Obj := ⟨.type "tuple", .none, .seq #[] 0, #[]⟩
noncomputable def o180 (P : Params) : Obj := ⟨.none, .none, .fields #[], #[]⟩
noncomputable def o181 (P : Params) : Obj := ⟨.none, .none, .func (fD (cl 16) "_law_family" 0 .none .none .none), #[]⟩
noncomputable def o182 (P : Params) : Obj := ⟨.type "code", .none, .fields #[.str "_law_family" 427, .str "_law_family" 428, .str "/claim/cut.py" 429, .int 146 0, .int 1 0, .int 0 0, .int 0 0, .int 3 0, .ref 179, .bool .true, .int 181 0, .ref 180, .none, .none, .none, .ref 181, .int 430 0, .int 146 0, .str "/claim/cut.py" 431], #[]⟩
noncomputable def o183 (P : Params) : Obj := ⟨.type "function", .none, .func (fD (cl 16) "_law_family" 3 .none (.str "law_om0086_01" 425) (.ref 182)), #[]⟩
noncomputable def o184 (P : Params) : Obj := ⟨.type "tuple", .none, .seq #[] 0, #[]⟩
noncomputable def o185 (P : Params) : Obj := ⟨.none, .none, .fields #[], #[]⟩
noncomputable def o186 (P : Params) : Obj := ⟨.type "tuple", .none, .seq #[.str "forms" 436, .str "row" 437, .str "told" 438, .str "used" 439, .str "worth" 440, .str "j" 441, .str "now" 442] 0, #[]⟩
noncomputable def o187 (P : Params) : Obj := ⟨.type "tuple", .none, .seq #[] 0, #[]⟩
noncomputable def o188 (P : Params) : Obj := ⟨.none, .none, .func (fD (cl 17) "_law_wedge" 0 .none .none .none), #[]⟩
noncomputable def o189 (P : Params) : Obj := ⟨.type "code", .none, .fields #[.str "_law_wedge" 433, .str "_law_wedge" 434, .str "/claim/cut.py" 435, .int 156 0, .int 2 0, .int 0 0, .int 0 0, .int 3 0, .ref 184, .bool .true, .int 181 0, .ref 185, .none, .ref 186, .ref 187, .ref 188, .int 443 0, .int 156 0, .str "/claim/cut.py" 444], #[]⟩
noncomputable def o190 (P : Params) : Obj := ⟨.type "function", .none, .func (fD (cl 17) "_law_wedge" 3 .none (.str "law_om0086_01" 425) (.ref 189)), #[]⟩
noncomputable def o191 (P : Params) : Obj := ⟨.type "tuple", .none, .seq #[] 0, #[]⟩
noncomputable def o192 (P : Params) : Obj := ⟨.none, .none, .fields #[], #[]⟩
noncomputable def o193 (P : Params) : Obj := ⟨.none, .none, .func (fD (cl 18) "law" 0 .none .none .none), #[]⟩
noncomputable def o194 (P : Params) : Obj := ⟨.type "code", .none, .fields #[.str "law" 446, .str "law" 447, .str "/claim/cut.py" 448, .int 167 0, .int 1 0, .int 0 0, .int 0 0, .int 3 0, .ref 191, .bool .true, .int 181 0, .ref 192, .none, .none, .none, .ref 193, .int 449 0, .int 167 0, .str "/claim/cut.py" 450], #[]⟩
noncomputable def o195 (P : Params) : Obj := ⟨.type "function", .none, .func (fD (cl 18) "law" 3 .none (.str "law_om0086_01" 425) (.ref 194)), #[]⟩
noncomputable def m44 (P : Params) : Obj := ⟨.none, .none, .fields #[], #[]⟩
noncomputable def t47 (P : Params) : BT := .node (boot_o_0 P) (.node (boot_o_1 P) (.node (boot_o_3 P) (lf (boot_o_7 P)) (lf (o11 P))) (.node (boot_o_5 P) (lf (boot_o_9 P)) (lf (o13 P)))) (.node (boot_o_2 P) (.node (boot_o_4 P) (lf (boot_o_8 P)) (lf (m44 P))) (.node (boot_o_6 P) (lf (boot_o_10 P)) (lf (o14 P))))
noncomputable def m49 (P : Params) : Obj := ⟨.type "dict", .none, .dict (de P "__name__" 165 (.str "cpy313.graphlib" 209) :: (ns0 P ++ [de P "_wall" 193 (.ref 21), de P "_initial_missing" 196 (.ref 22), de P "reduce" 208 (.ref 30), de P "_NODE_OUT" 213 (.int (-1) 212), de P "_NODE_DONE" 216 (.int (-2) 215)])).toArray 14, #[]⟩
noncomputable def m50 (P : Params) : Obj := ⟨.none, .none, .fields #[.int 1 0, .int 0 0, .ref 20, .int 6 0, .int 0 0, .ref 29], #[]⟩
noncomputable def t66 (P : Params) : BT := .node (boot_o_0 P) (.node (boot_o_1 P) (.node (m49 P) (.node (boot_o_7 P) (lf (o15 P)) (lf (o23 P))) (.node (o11 P) (lf (o19 P)) (lf (o27 P)))) (.node (boot_o_5 P) (.node (boot_o_9 P) (lf (o17 P)) (lf (o25 P))) (.node (o13 P) (lf (o21 P)) (lf (o29 P))))) (.node (boot_o_2 P) (.node (boot_o_4 P) (.node (boot_o_8 P) (lf (o16 P)) (lf (o24 P))) (.node (m50 P) (lf (o20 P)) (lf (o28 P)))) (.node (boot_o_6 P) (.node (boot_o_10 P) (lf (o18 P)) (lf (o26 P))) (.node (o14 P) (lf (o22 P)) (lf (o30 P)))))
noncomputable def m67 (P : Params) : Obj := ⟨.type "dict", .none, .dict (de P "__name__" 165 (.str "cpy313.graphlib" 209) :: (ns0 P ++ [de P "_wall" 193 (.ref 21), de P "_initial_missing" 196 (.ref 22), de P "reduce" 208 (.ref 30), de P "_NODE_OUT" 213 (.int (-1) 212), de P "_NODE_DONE" 216 (.int (-2) 215), de P "_NodeInfo" 253 (.ref 49)])).toArray 15, #[]⟩
noncomputable def m68 (P : Params) : Obj := ⟨.none, .none, .fields #[.int 1 0, .int 0 0, .ref 20, .int 6 0, .int 0 0, .ref 29, .int 21 0, .int 0 0, .ref 36], #[]⟩
noncomputable def t92 (P : Params) : BT := .node (boot_o_0 P) (.node (boot_o_1 P) (.node (m67 P) (.node (boot_o_7 P) (.node (o15 P) (lf (o31 P)) (lf (o47 P))) (.node (o23 P) (lf (o39 P)) .nil)) (.node (o11 P) (.node (o19 P) (lf (o35 P)) (lf (o51 P))) (.node (o27 P) (lf (o43 P)) .nil))) (.node (boot_o_5 P) (.node (boot_o_9 P) (.node (o17 P) (lf (o33 P)) (lf (o49 P))) (.node (o25 P) (lf (o41 P)) .nil)) (.node (o13 P) (.node (o21 P) (lf (o37 P)) (lf (o53 P))) (.node (o29 P) (lf (o45 P)) .nil)))) (.node (boot_o_2 P) (.node (boot_o_4 P) (.node (boot_o_8 P) (.node (o16 P) (lf (o32 P)) (lf (o48 P))) (.node (o24 P) (lf (o40 P)) .nil)) (.node (m68 P) (.node (o20 P) (lf (o36 P)) (lf (o52 P))) (.node (o28 P) (lf (o44 P)) .nil))) (.node (boot_o_6 P) (.node (boot_o_10 P) (.node (o18 P) (lf (o34 P)) (lf (o50 P))) (.node (o26 P) (lf (o42 P)) .nil)) (.node (o14 P) (.node (o22 P) (lf (o38 P)) (lf (o54 P))) (.node (o30 P) (lf (o46 P)) .nil))))
noncomputable def m93 (P : Params) : Obj := ⟨.type "dict", .none, .dict (de P "__name__" 165 (.str "cpy313.graphlib" 209) :: (ns0 P ++ [de P "_wall" 193 (.ref 21), de P "_initial_missing" 196 (.ref 22), de P "reduce" 208 (.ref 30), de P "_NODE_OUT" 213 (.int (-1) 212), de P "_NODE_DONE" 216 (.int (-2) 215), de P "_NodeInfo" 253 (.ref 49), de P "CycleError" 271 (.ref 64)])).toArray 16, #[]⟩
noncomputable def m94 (P : Params) : Obj := ⟨.none, .none, .fields #[.int 1 0, .int 0 0, .ref 20, .int 6 0, .int 0 0, .ref 29, .int 21 0, .int 0 0, .ref 36, .int 28 0, .int 0 0, .ref 60], #[]⟩
noncomputable def t107 (P : Params) : BT := .node (boot_o_0 P) (.node (boot_o_1 P) (.node (m93 P) (.node (boot_o_7 P) (.node (o15 P) (.node (o31 P) (lf (o63 P)) .nil) (lf (o47 P))) (.node (o23 P) (lf (o39 P)) (lf (o55 P)))) (.node (o11 P) (.node (o19 P) (.node (o35 P) (lf (o67 P)) .nil) (lf (o51 P))) (.node (o27 P) (lf (o43 P)) (lf (o59 P))))) (.node (boot_o_5 P) (.node (boot_o_9 P) (.node (o17 P) (.node (o33 P) (lf (o65 P)) .nil) (lf (o49 P))) (.node (o25 P) (lf (o41 P)) (lf (o57 P)))) (.node (o13 P) (.node (o21 P) (lf (o37 P)) (lf (o53 P))) (.node (o29 P) (lf (o45 P)) (lf (o61 P)))))) (.node (boot_o_2 P) (.node (boot_o_4 P) (.node (boot_o_8 P) (.node (o16 P) (.node (o32 P) (lf (o64 P)) .nil) (lf (o48 P))) (.node (o24 P) (lf (o40 P)) (lf (o56 P)))) (.node (m94 P) (.node (o20 P) (lf (o36 P)) (lf (o52 P))) (.node (o28 P) (lf (o44 P)) (lf (o60 P))))) (.node (boot_o_6 P) (.node (boot_o_10 P) (.node (o18 P) (.node (o34 P) (lf (o66 P)) .nil) (lf (o50 P))) (.node (o26 P) (lf (o42 P)) (lf (o58 P)))) (.node (o14 P) (.node (o22 P) (lf (o38 P)) (lf (o54 P))) (.node (o30 P) (lf (o46 P)) (lf (o62 P))))))
noncomputable def m108 (P : Params) : Obj := ⟨.type "dict", .none, .dict (de P "__name__" 165 (.str "cpy313.graphlib" 209) :: (ns0 P ++ [de P "_wall" 193 (.ref 21), de P "_initial_missing" 196 (.ref 22), de P "reduce" 208 (.ref 30), de P "_NODE_OUT" 213 (.int (-1) 212), de P "_NODE_DONE" 216 (.int (-2) 215), de P "_NodeInfo" 253 (.ref 49), de P "CycleError" 271 (.ref 64), de P "TopologicalSorter" 390 (.ref 146)])).toArray 17, #[]⟩
noncomputable def m109 (P : Params) : Obj := ⟨.none, .none, .fields #[.int 1 0, .int 0 0, .ref 20, .int 6 0, .int 0 0, .ref 29, .int 21 0, .int 0 0, .ref 36, .int 28 0, .int 0 0, .ref 60, .int 30 0, .int 0 0, .ref 73], #[]⟩
noncomputable def t192 (P : Params) : BT := .node (boot_o_0 P) (.node (boot_o_1 P) (.node (m108 P) (.node (boot_o_7 P) (.node (o15 P) (.node (o31 P) (.node (o63 P) (lf (o127 P)) .nil) (lf (o95 P))) (.node (o47 P) (.node (o79 P) (lf (o143 P)) .nil) (lf (o111 P)))) (.node (o23 P) (.node (o39 P) (.node (o71 P) (lf (o135 P)) .nil) (lf (o103 P))) (.node (o55 P) (lf (o87 P)) (lf (o119 P))))) (.node (o11 P) (.node (o19 P) (.node (o35 P) (.node (o67 P) (lf (o131 P)) .nil) (lf (o99 P))) (.node (o51 P) (.node (o83 P) (lf (o147 P)) .nil) (lf (o115 P)))) (.node (o27 P) (.node (o43 P) (.node (o75 P) (lf (o139 P)) .nil) (lf (o107 P))) (.node (o59 P) (lf (o91 P)) (lf (o123 P)))))) (.node (boot_o_5 P) (.node (boot_o_9 P) (.node (o17 P) (.node (o33 P) (.node (o65 P) (lf (o129 P)) .nil) (lf (o97 P))) (.node (o49 P) (.node (o81 P) (lf (o145 P)) .nil) (lf (o113 P)))) (.node (o25 P) (.node (o41 P) (.node (o73 P) (lf (o137 P)) .nil) (lf (o105 P))) (.node (o57 P) (lf (o89 P)) (lf (o121 P))))) (.node (o13 P) (.node (o21 P) (.node (o37 P) (.node (o69 P) (lf (o133 P)) .nil) (lf (o101 P))) (.node (o53 P) (.node (o85 P) (lf (o149 P)) .nil) (lf (o117 P)))) (.node (o29 P) (.node (o45 P) (.node (o77 P) (lf (o141 P)) .nil) (lf (o109 P))) (.node (o61 P) (lf (o93 P)) (lf (o125 P))))))) (.node (boot_o_2 P) (.node (boot_o_4 P) (.node (boot_o_8 P) (.node (o16 P) (.node (o32 P) (.node (o64 P) (lf (o128 P)) .nil) (lf (o96 P))) (.node (o48 P) (.node (o80 P) (lf (o144 P)) .nil) (lf (o112 P)))) (.node (o24 P) (.node (o40 P) (.node (o72 P) (lf (o136 P)) .nil) (lf (o104 P))) (.node (o56 P) (lf (o88 P)) (lf (o120 P))))) (.node (m109 P) (.node (o20 P) (.node (o36 P) (.node (o68 P) (lf (o132 P)) .nil) (lf (o100 P))) (.node (o52 P) (.node (o84 P) (lf (o148 P)) .nil) (lf (o116 P)))) (.node (o28 P) (.node (o44 P) (.node (o76 P) (lf (o140 P)) .nil) (lf (o108 P))) (.node (o60 P) (lf (o92 P)) (lf (o124 P)))))) (.node (boot_o_6 P) (.node (boot_o_10 P) (.node (o18 P) (.node (o34 P) (.node (o66 P) (lf (o130 P)) .nil) (lf (o98 P))) (.node (o50 P) (.node (o82 P) (lf (o146 P)) .nil) (lf (o114 P)))) (.node (o26 P) (.node (o42 P) (.node (o74 P) (lf (o138 P)) .nil) (lf (o106 P))) (.node (o58 P) (lf (o90 P)) (lf (o122 P))))) (.node (o14 P) (.node (o22 P) (.node (o38 P) (.node (o70 P) (lf (o134 P)) .nil) (lf (o102 P))) (.node (o54 P) (.node (o86 P) (lf (o150 P)) .nil) (lf (o118 P)))) (.node (o30 P) (.node (o46 P) (.node (o78 P) (lf (o142 P)) .nil) (lf (o110 P))) (.node (o62 P) (lf (o94 P)) (lf (o126 P)))))))
noncomputable def t239 (P : Params) : BT := .node (boot_o_0 P) (.node (boot_o_1 P) (.node (o3 P) (.node (boot_o_7 P) (.node (o15 P) (.node (o31 P) (.node (o63 P) (lf (o127 P)) (lf (o191 P))) (.node (o95 P) (lf (o159 P)) .nil)) (.node (o47 P) (.node (o79 P) (lf (o143 P)) .nil) (.node (o111 P) (lf (o175 P)) .nil))) (.node (o23 P) (.node (o39 P) (.node (o71 P) (lf (o135 P)) .nil) (.node (o103 P) (lf (o167 P)) .nil)) (.node (o55 P) (.node (o87 P) (lf (o151 P)) .nil) (.node (o119 P) (lf (o183 P)) .nil)))) (.node (o11 P) (.node (o19 P) (.node (o35 P) (.node (o67 P) (lf (o131 P)) (lf (o195 P))) (.node (o99 P) (lf (o163 P)) .nil)) (.node (o51 P) (.node (o83 P) (lf (o147 P)) .nil) (.node (o115 P) (lf (o179 P)) .nil))) (.node (o27 P) (.node (o43 P) (.node (o75 P) (lf (o139 P)) .nil) (.node (o107 P) (lf (o171 P)) .nil)) (.node (o59 P) (.node (o91 P) (lf (o155 P)) .nil) (.node (o123 P) (lf (o187 P)) .nil))))) (.node (boot_o_5 P) (.node (boot_o_9 P) (.node (o17 P) (.node (o33 P) (.node (o65 P) (lf (o129 P)) (lf (o193 P))) (.node (o97 P) (lf (o161 P)) .nil)) (.node (o49 P) (.node (o81 P) (lf (o145 P)) .nil) (.node (o113 P) (lf (o177 P)) .nil))) (.node (o25 P) (.node (o41 P) (.node (o73 P) (lf (o137 P)) .nil) (.node (o105 P) (lf (o169 P)) .nil)) (.node (o57 P) (.node (o89 P) (lf (o153 P)) .nil) (.node (o121 P) (lf (o185 P)) .nil)))) (.node (o13 P) (.node (o21 P) (.node (o37 P) (.node (o69 P) (lf (o133 P)) .nil) (.node (o101 P) (lf (o165 P)) .nil)) (.node (o53 P) (.node (o85 P) (lf (o149 P)) .nil) (.node (o117 P) (lf (o181 P)) .nil))) (.node (o29 P) (.node (o45 P) (.node (o77 P) (lf (o141 P)) .nil) (.node (o109 P) (lf (o173 P)) .nil)) (.node (o61 P) (.node (o93 P) (lf (o157 P)) .nil) (.node (o125 P) (lf (o189 P)) .nil)))))) (.node (boot_o_2 P) (.node (boot_o_4 P) (.node (boot_o_8 P) (.node (o16 P) (.node (o32 P) (.node (o64 P) (lf (o128 P)) (lf (o192 P))) (.node (o96 P) (lf (o160 P)) .nil)) (.node (o48 P) (.node (o80 P) (lf (o144 P)) .nil) (.node (o112 P) (lf (o176 P)) .nil))) (.node (o24 P) (.node (o40 P) (.node (o72 P) (lf (o136 P)) .nil) (.node (o104 P) (lf (o168 P)) .nil)) (.node (o56 P) (.node (o88 P) (lf (o152 P)) .nil) (.node (o120 P) (lf (o184 P)) .nil)))) (.node (o12 P) (.node (o20 P) (.node (o36 P) (.node (o68 P) (lf (o132 P)) .nil) (.node (o100 P) (lf (o164 P)) .nil)) (.node (o52 P) (.node (o84 P) (lf (o148 P)) .nil) (.node (o116 P) (lf (o180 P)) .nil))) (.node (o28 P) (.node (o44 P) (.node (o76 P) (lf (o140 P)) .nil) (.node (o108 P) (lf (o172 P)) .nil)) (.node (o60 P) (.node (o92 P) (lf (o156 P)) .nil) (.node (o124 P) (lf (o188 P)) .nil))))) (.node (boot_o_6 P) (.node (boot_o_10 P) (.node (o18 P) (.node (o34 P) (.node (o66 P) (lf (o130 P)) (lf (o194 P))) (.node (o98 P) (lf (o162 P)) .nil)) (.node (o50 P) (.node (o82 P) (lf (o146 P)) .nil) (.node (o114 P) (lf (o178 P)) .nil))) (.node (o26 P) (.node (o42 P) (.node (o74 P) (lf (o138 P)) .nil) (.node (o106 P) (lf (o170 P)) .nil)) (.node (o58 P) (.node (o90 P) (lf (o154 P)) .nil) (.node (o122 P) (lf (o186 P)) .nil)))) (.node (o14 P) (.node (o22 P) (.node (o38 P) (.node (o70 P) (lf (o134 P)) .nil) (.node (o102 P) (lf (o166 P)) .nil)) (.node (o54 P) (.node (o86 P) (lf (o150 P)) .nil) (.node (o118 P) (lf (o182 P)) .nil))) (.node (o30 P) (.node (o46 P) (.node (o78 P) (lf (o142 P)) .nil) (.node (o110 P) (lf (o174 P)) .nil)) (.node (o62 P) (.node (o94 P) (lf (o158 P)) .nil) (.node (o126 P) (lf (o190 P)) .nil))))))
noncomputable def hp (P : Params) : Heap := ⟨#[boot_o_0 P, boot_o_1 P, boot_o_2 P, o3 P, boot_o_4 P, boot_o_5 P, boot_o_6 P, boot_o_7 P, boot_o_8 P, boot_o_9 P, boot_o_10 P, o11 P, o12 P, o13 P, o14 P, o15 P, o16 P, o17 P, o18 P, o19 P, o20 P, o21 P, o22 P, o23 P, o24 P, o25 P, o26 P, o27 P, o28 P, o29 P, o30 P, o31 P, o32 P, o33 P, o34 P, o35 P, o36 P, o37 P, o38 P, o39 P, o40 P, o41 P, o42 P, o43 P, o44 P, o45 P, o46 P, o47 P, o48 P, o49 P, o50 P, o51 P, o52 P, o53 P, o54 P, o55 P, o56 P, o57 P, o58 P, o59 P, o60 P, o61 P, o62 P, o63 P, o64 P, o65 P, o66 P, o67 P, o68 P, o69 P, o70 P, o71 P, o72 P, o73 P, o74 P, o75 P, o76 P, o77 P, o78 P, o79 P, o80 P, o81 P, o82 P, o83 P, o84 P, o85 P, o86 P, o87 P, o88 P, o89 P, o90 P, o91 P, o92 P, o93 P, o94 P, o95 P, o96 P, o97 P, o98 P, o99 P, o100 P, o101 P, o102 P, o103 P, o104 P, o105 P, o106 P, o107 P, o108 P, o109 P, o110 P, o111 P, o112 P, o113 P, o114 P, o115 P, o116 P, o117 P, o118 P, o119 P, o120 P, o121 P, o122 P, o123 P, o124 P, o125 P, o126 P, o127 P, o128 P, o129 P, o130 P, o131 P, o132 P, o133 P, o134 P, o135 P, o136 P, o137 P, o138 P, o139 P, o140 P, o141 P, o142 P, o143 P, o144 P, o145 P, o146 P, o147 P, o148 P, o149 P, o150 P, o151 P, o152 P, o153 P, o154 P, o155 P, o156 P, o157 P, o158 P, o159 P, o160 P, o161 P, o162 P, o163 P, o164 P, o165 P, o166 P, o167 P, o168 P, o169 P, o170 P, o171 P, o172 P, o173 P, o174 P, o175 P, o176 P, o177 P, o178 P, o179 P, o180 P, o181 P, o182 P, o183 P, o184 P, o185 P, o186 P, o187 P, o188 P, o189 P, o190 P, o191 P, o192 P, o193 P, o194 P, o195 P], {}⟩
noncomputable def hdK (P : Params) : Frag := [(2, boot_o_2 P), (3, o3 P), (15, o15 P), (17, o17 P), (18, o18 P), (20, o20 P), (21, o21 P), (22, o22 P), (23, o23 P), (24, o24 P), (26, o26 P), (27, o27 P), (29, o29 P), (30, o30 P), (38, o38 P), (39, o39 P), (41, o41 P), (42, o42 P), (44, o44 P), (45, o45 P), (46, o46 P), (48, o48 P), (49, o49 P), (50, o50 P), (51, o51 P), (52, o52 P), (55, o55 P), (62, o62 P), (63, o63 P), (64, o64 P), (65, o65 P), (75, o75 P), (76, o76 P), (78, o78 P), (79, o79 P), (81, o81 P), (82, o82 P), (83, o83 P), (85, o85 P), (86, o86 P), (88, o88 P), (89, o89 P), (90, o90 P), (92, o92 P), (93, o93 P), (95, o95 P), (96, o96 P), (97, o97 P), (100, o100 P), (101, o101 P), (102, o102 P), (104, o104 P), (105, o105 P), (107, o107 P), (108, o108 P), (109, o109 P), (111, o111 P), (112, o112 P), (114, o114 P), (115, o115 P), (116, o116 P), (118, o118 P), (119, o119 P), (121, o121 P), (122, o122 P), (123, o123 P), (125, o125 P), (126, o126 P), (128, o128 P), (129, o129 P), (130, o130 P), (132, o132 P), (133, o133 P), (135, o135 P), (136, o136 P), (137, o137 P), (139, o139 P), (140, o140 P), (142, o142 P), (143, o143 P), (144, o144 P), (145, o145 P), (146, o146 P), (147, o147 P), (148, o148 P), (151, o151 P), (153, o153 P), (154, o154 P), (156, o156 P), (157, o157 P), (158, o158 P), (160, o160 P), (161, o161 P), (163, o163 P), (164, o164 P), (165, o165 P), (167, o167 P), (168, o168 P), (170, o170 P), (171, o171 P), (172, o172 P), (174, o174 P), (175, o175 P), (177, o177 P), (178, o178 P), (179, o179 P), (182, o182 P), (183, o183 P), (184, o184 P), (186, o186 P), (187, o187 P), (189, o189 P), (190, o190 P), (191, o191 P), (194, o194 P), (195, o195 P)]
noncomputable def hdA : List Addr := [2, 3, 15, 17, 18, 20, 21, 22, 23, 24, 26, 27, 29, 30, 38, 39, 41, 42, 44, 45, 46, 48, 49, 50, 51, 52, 55, 62, 63, 64, 65, 75, 76, 78, 79, 81, 82, 83, 85, 86, 88, 89, 90, 92, 93, 95, 96, 97, 100, 101, 102, 104, 105, 107, 108, 109, 111, 112, 114, 115, 116, 118, 119, 121, 122, 123, 125, 126, 128, 129, 130, 132, 133, 135, 136, 137, 139, 140, 142, 143, 144, 145, 146, 147, 148, 151, 153, 154, 156, 157, 158, 160, 161, 163, 164, 165, 167, 168, 170, 171, 172, 174, 175, 177, 178, 179, 182, 183, 184, 186, 187, 189, 190, 191, 194, 195]
noncomputable def vw : Program := { rp with main := { rp.main with body := [cl 0, cl 2, cl 5, cl 6, cl 7, cl 8, cl 9, cl 11, cl 12, cl 13, cl 14, cl 16, cl 17, cl 18] } }
noncomputable def lo : List Str := ["_initial_missing", "reduce", "_NodeInfo"]
theorem hdHas (P : Params) : hdA = (hdK P).map (·.1) := by kernel_rfl
noncomputable abbrev hdH : Hook := kHook hdK hdA hdHas
/-! what the row asks of the text -/
theorem sd1 : sreFenced rp.main = true := by rw [PySem.W.Fast.te11788848310118352699]; kernel_rfl
theorem sd2 : ((moduleNames rp.main.body).isEmpty || lookedIntoSs (moduleNames rp.main.body) rp.main.body) = true := by rw [PySem.W.Fast.te9807087744658564304, PySem.W.Fast.te12862048085361865435]; kernel_rfl
theorem sd3 : namesResolve rp = true := by rw [PySem.W.Fast.te8377067652309620493]; kernel_rfl
theorem sd4 : rp.boundNames.all (fun n => !worldNames.contains n) = true := by rw [PySem.W.R.allR_eq, PySem.W.Fast.te18344453789297297638, PySem.W.Fast.te14412699480532031325, PySem.W.Fast.sDec_eq]; kernel_rfl
theorem sd5 : noRoadLSs { strict := !(importedModules rp.main.body).all cThrough.contains, foot := none, bare := (["vars", "dir", "locals"] : List Str).filter (readsOut rp rp.main.body) } rp.main.body = true := by
  rw [PySem.W.Fast.te8326940854005059898, PySem.W.Fast.te5923862056798008813, PySem.W.Fast.te13343964577679436407]; kernel_rfl
theorem sd6 : namesMeet rp rp.main.body (fun _ n => attrL n) = true := by rw [PySem.W.Fast.te17119622794617984870, PySem.W.Fast.te17868728402115742887]; kernel_rfl
theorem sd_looks : looksOpen rp = true := by
  unfold looksOpen
  exact look_both (look_both (look_both (look_both (look_both sd1 sd2) sd3) sd4) sd5) sd6
theorem sd_row : PySem.Challenge.rw_om0086_01.row.wellSaid = true := by
  unfold OpenRow.wellSaid OpenRow.partSaid
  rw [sd_looks]
  kernel_rfl
theorem hd_said : PySem.Challenge.rw_om0086_01.wellSaid = true := by
  unfold OpenLaw.wellSaid
  rw [sd_row, PySem.W.Fast.te10501279942588096481, PySem.W.Fast.te8179353310426384613, PySem.W.Fast.te8326940854005059898, PySem.W.Fast.te797321630700447069, PySem.W.Fast.te9572597257264208301, PySem.W.Fast.te9558739934217749035, PySem.W.Fast.te16286561074155671207, PySem.W.Fast.sDec_eq, PySem.W.Fast.named_eq, PySem.W.Fast.te6984425678791042302, PySem.W.Fast.te12879404354523853263, PySem.W.Fast.te482687673346738481, PySem.W.Fast.te17119622794617984870, PySem.W.Fast.te10792542408131684335]
  kernel_rfl
/-! the run of the top, in pieces -/
noncomputable def h46 (P : Params) : Heap := ⟨#[boot_o_0 P, boot_o_1 P, boot_o_2 P, boot_o_3 P, boot_o_4 P, boot_o_5 P, boot_o_6 P, boot_o_7 P, boot_o_8 P, boot_o_9 P, boot_o_10 P, o11 P, m44 P, o13 P, o14 P], {}⟩
noncomputable def ev : Env := { scope := rp.main.scope, locals := mainNs, globals := mainNs, cells := [], code := .ref 13, frame := some 14 }
noncomputable abbrev cE : Code := .body (behindTheImports rp) ev
noncomputable abbrev q0 : Pos := ⟨0, 0, 0, 0⟩
noncomputable abbrev St (t : Params → BT) (n k : Nat) (w : World) (os : OsState) : SharedT := ⟨t w.params, n, {}, #[], {}, k, os⟩
noncomputable def sl (a n : Nat) : List Stmt := (PySem.Challenge.pw_om0086_01.main.body.drop a).take n
theorem r_pre (w : World) (os : OsState) : topGo treeTable rp w 11 (some (.ref 6)) 12 ⟨boot_heap w.params, #[], boot_drawn, boot_toks, os⟩ (topStub rp) = some (⟨h46 w.params, #[], {}, 187, os⟩, ⟨denote treeTable cE, cE, q0, [topFrame q0]⟩) := by
  rw [PySem.W.Fast.te15667345088766844465, PySem.W.Fast.te14364793385576792824, PySem.W.Fast.te11892475500146522536]
  kernel_rfl
theorem r_blk (w : World) (os : OsState) : segRun treeTable rp w 11 (some (.ref 6)) 1 1 ⟨h46 w.params, #[], {}, 187, os⟩ (blockOf (behindTheImports rp) ev cE q0 [topFrame q0]) = some (.next, (St t47 15 187 w os).abs, cE, q0) := by
  rw [PySem.W.Fast.te14374325043358763698, PySem.W.Fast.te14364793385576792824]
  kernel_rfl
theorem r1 (w : World) (os : OsState) : segRunT treeTable rp w 11 (some (.ref 6)) 1 139 (St t47 15 187 w os) (piecesOf (sl 0 7) ev cE q0 [topFrame q0]) = some (.next, St t66 31 217 w os, cE, ⟨20, 0, 20, 10⟩) := by
  rw [PySem.W.Fast.te10110043849684766642, PySem.W.Fast.te14364793385576792824]
  kernel_rfl
theorem r2 (w : World) (os : OsState) : segRunT treeTable rp w 11 (some (.ref 6)) 1 264 (St t66 31 217 w os) (piecesOf (sl 7 1) ev cE ⟨20, 0, 20, 10⟩ [topFrame q0]) = some (.next, St t92 55 254 w os, cE, ⟨21, 0, 27, 28⟩) := by
  rw [PySem.W.Fast.te10110043849684766642, PySem.W.Fast.te14364793385576792824]
  kernel_rfl
theorem r3 (w : World) (os : OsState) : segRunT treeTable rp w 11 (some (.ref 6)) 1 187 (St t92 55 254 w os) (piecesOf (sl 8 1) ev cE ⟨21, 0, 27, 28⟩ [topFrame q0]) = some (.next, St t107 68 272 w os, cE, ⟨28, 0, 29, 8⟩) := by
  rw [PySem.W.Fast.te10110043849684766642, PySem.W.Fast.te14364793385576792824]
  kernel_rfl
theorem r4 (w : World) (os : OsState) : segRunT treeTable rp w 11 (some (.ref 6)) 1 528 (St t107 68 272 w os) (piecesOf (sl 9 1) ev cE ⟨28, 0, 29, 8⟩ [topFrame q0]) = some (.next, St t192 151 391 w os, cE, ⟨30, 0, 135, 16⟩) := by
  rw [PySem.W.Fast.te10110043849684766642, PySem.W.Fast.te14364793385576792824]
  kernel_rfl
theorem r5 (w : World) (os : OsState) : segRunT treeTable rp w 11 (some (.ref 6)) 1 226 (St t192 151 391 w os) (piecesOf (sl 10 9) ev cE ⟨30, 0, 135, 16⟩ [topFrame q0]) = some (.next, St t239 196 452 w os, cE, ⟨167, 0, 192, 81⟩) := by
  rw [PySem.W.Fast.te10110043849684766642, PySem.W.Fast.te14364793385576792824]
  kernel_rfl
theorem r_fin (w : World) (os : OsState) : topRun treeTable rp w 11 (some (.ref 6)) 2 (St t239 196 452 w os).abs (restOf [] ev cE ⟨167, 0, 192, 81⟩ [topFrame q0]) = some ⟨hp w.params, #[], {}, 452, os⟩ := by
  rw [PySem.W.Fast.te14082659384304107361, PySem.W.Fast.te14364793385576792824]
  kernel_rfl
theorem r_body : restOf (behindTheImports rp) ev cE q0 [topFrame q0] = restOf (sl 0 7 ++ (sl 7 1 ++ (sl 8 1 ++ (sl 9 1 ++ (sl 10 9 ++ []))))) ev cE q0 [topFrame q0] :=
  congrArg (fun b => restOf b ev cE q0 [topFrame q0]) (by kernel_rfl)
theorem hd_run (w : World) (os : OsState) : topRun treeTable rp w 11 (some (.ref 6)) (12 + (1 + (139 + (264 + (187 + (528 + (226 + 2))))))) ⟨boot_heap w.params, #[], boot_drawn, boot_toks, os⟩ (topStub rp) = some ⟨hp w.params, #[], {}, 452, os⟩ := by
  refine go_top (r_pre w os) (piece_block (r_blk w os) ?_)
  rw [r_body]
  exact piece_app (segRun_of (r1 w os)) (piece_app (segRun_of (r2 w os)) (piece_app (segRun_of (r3 w os)) (piece_app (segRun_of (r4 w os)) (piece_app (segRun_of (r5 w os)) (r_fin w os)))))
theorem hd_looks (w : World) : (fun os => ((staticsOk (importedModules rp.main.body) (boot_heap w.params) (hp w.params) && namesBound rp (hp w.params) && gensDone ⟨hp w.params, #[], {}, 452, os⟩ && laidKept (boot_heap w.params) (hp w.params)),
    openSeen vw lo (importedModules rp.main.body) (fun s => xlAt vw [] s && recOk PySem.Challenge.rw_om0086_01.row.records s) true ⟨hp w.params, #[], {}, 452, os⟩, hdH.obs ⟨hp w.params, #[], {}, 452, os⟩)) = fun _ => (true, openGood vw lo, hdH.val w) := by
  rw [PySem.W.Fast.te4187177175401517315]
  kernel_rfl
theorem hd_left : LeftO rp vw lo (fun s => xlAt vw [] s && recOk PySem.Challenge.rw_om0086_01.row.records s) hdH.obs hdH.val 2804 :=
  LeftO.of_pieces (boot_open (by kernel_rfl) (by decide) fun s => by kernel_rfl) (fun w => by kernel_rfl) hd_run (by decide) hd_looks
theorem hd_ok : (chainsOk vw && opensWell PySem.Challenge.rw_om0086_01.row.prog && (frees PySem.Challenge.rw_om0086_01.row.toRowW && PySem.Challenge.rw_om0086_01.row.within.isEmpty)) = true := by kernel_rfl
theorem hd_bare : PySem.Challenge.rw_om0086_01.row.prog.tablesWhole = true := by kernel_rfl
end Mine.Hd
end

section
open PySem PySem.W PyProof.Rows
set_option autoImplicit false
set_option linter.unusedVariables false
namespace Mine

/-- abstract values -/
inductive AVal where
  | int (i : Int)
  | bool (b : Bool)
  | none
  | ref (i : Nat)
  | stat (v : Value)

/-- abstract objects -/
inductive AObj where
  | list (vs : List AVal)
  | tuple (vs : List AVal)
  | dict (ep : Nat) (kvs : List (Int × AVal))
  | set (ks : List Int)
  | iter (l k : Nat)
  | nextm (it : Nat)
  | inst (C : Addr) (d : Nat) (sl : List (Option AVal))
  | sdict (kvs : List (Str × AVal))
  | range (a b c : Int)
  | items (d : Nat)
  | values (d : Nat)
  | dead
  | ddict (kvs : List (Int × AVal))

noncomputable abbrev Rho := List Addr

noncomputable def VR (ρ : Rho) : AVal → Value → Prop
  | .int i, c => ∃ t, c = .int i t
  | .bool b, c => c = .bool b
  | .none, c => c = .none
  | .ref i, c => ∃ a, ρ[i]? = some a ∧ c = .ref a
  | .stat v, c => c = v

noncomputable def Ext (ρ ρ' : Rho) : Prop := ∀ (i : Nat) (a : Addr), ρ[i]? = some a → ρ'[i]? = some a
theorem Ext.refl (ρ : Rho) : Ext ρ ρ := fun _ _ e => e
theorem Ext.trans {a b c : Rho} (x : Ext a b) (y : Ext b c) : Ext a c := fun i v e => y i v (x i v e)
theorem Ext.snoc (ρ : Rho) (a : Addr) : Ext ρ (ρ ++ [a]) := fun i v e => by
  have hl : i < ρ.length := (List.getElem?_eq_some_iff.mp e).1
  rw [List.getElem?_append_left hl]; exact e
theorem VR.ext {ρ ρ' : Rho} (x : Ext ρ ρ') {v : AVal} {c : Value} (h : VR ρ v c) : VR ρ' v c := by
  cases v with
  | ref i => obtain ⟨a, e, r⟩ := h; exact ⟨a, x i a e, r⟩
  | _ => exact h

inductive VRs (ρ : Rho) : List AVal → List Value → Prop
  | nil : VRs ρ [] []
  | cons {v c vs cs} : VR ρ v c → VRs ρ vs cs → VRs ρ (v :: vs) (c :: cs)
theorem VRs.ext {ρ ρ' : Rho} (x : Ext ρ ρ') {vs : List AVal} {cs : List Value} (h : VRs ρ vs cs) : VRs ρ' vs cs := by
  induction h with
  | nil => exact .nil
  | cons a _ ih => exact .cons (a.ext x) ih
theorem VRs.length {ρ : Rho} {vs : List AVal} {cs : List Value} (h : VRs ρ vs cs) : cs.length = vs.length := by
  induction h with
  | nil => rfl
  | cons _ _ ih => simp [ih]
theorem VRs.append {ρ : Rho} {vs vs' : List AVal} {cs cs' : List Value} (h : VRs ρ vs cs) (h' : VRs ρ vs' cs') : VRs ρ (vs ++ vs') (cs ++ cs') := by
  induction h with
  | nil => exact h'
  | cons a _ ih => exact .cons a ih
theorem VRs.get {ρ : Rho} {vs : List AVal} {cs : List Value} (h : VRs ρ vs cs) {i : Nat} {v : AVal} (e : vs[i]? = some v) : ∃ c, cs[i]? = some c ∧ VR ρ v c := by
  induction h generalizing i with
  | nil => simp at e
  | cons a _ ih =>
    cases i with
    | zero => simp at e; subst e; exact ⟨_, by simp, a⟩
    | succ i => simp at e; obtain ⟨c, h1, h2⟩ := ih e; exact ⟨c, by simpa using h1, h2⟩
/-- pairs of a dict -/
inductive VPs {K : Type} (ρ : Rho) : List (K × AVal) → List (K × Value) → Prop
  | nil : VPs ρ [] []
  | cons {k v c vs cs} : VR ρ v c → VPs ρ vs cs → VPs ρ ((k, v) :: vs) ((k, c) :: cs)
theorem VPs.ext {K : Type} {ρ ρ' : Rho} (x : Ext ρ ρ') {vs : List (K × AVal)} {cs : List (K × Value)} (h : VPs ρ vs cs) : VPs ρ' vs cs := by
  induction h with
  | nil => exact .nil
  | cons a _ ih => exact .cons (a.ext x) ih
theorem VPs.length {K : Type} {ρ : Rho} {vs : List (K × AVal)} {cs : List (K × Value)} (h : VPs ρ vs cs) : cs.length = vs.length := by
  induction h with
  | nil => rfl
  | cons _ _ ih => simp [ih]
theorem VPs.keys {K : Type} {ρ : Rho} {vs : List (K × AVal)} {cs : List (K × Value)} (h : VPs ρ vs cs) : cs.map (·.1) = vs.map (·.1) := by
  induction h with
  | nil => rfl
  | cons _ _ ih => simp [ih]

/-- slots -/
inductive VOs (ρ : Rho) : List (Option AVal) → List (Option Value) → Prop
  | nil : VOs ρ [] []
  | none {vs cs} : VOs ρ vs cs → VOs ρ (none :: vs) (none :: cs)
  | some {v c vs cs} : VR ρ v c → VOs ρ vs cs → VOs ρ (some v :: vs) (some c :: cs)
theorem VOs.ext {ρ ρ' : Rho} (x : Ext ρ ρ') {vs : List (Option AVal)} {cs : List (Option Value)} (h : VOs ρ vs cs) : VOs ρ' vs cs := by
  induction h with
  | nil => exact .nil
  | none _ ih => exact .none ih
  | some a _ ih => exact .some (a.ext x) ih
/-- the dict of an object -/
inductive SDs (ρ : Rho) : List (Str × AVal) → List DictEntry → Prop
  | nil : SDs ρ [] []
  | cons {x h t v c vs es} : VR ρ v c → SDs ρ vs es → SDs ρ ((x, v) :: vs) (⟨h, .str x t, c⟩ :: es)
theorem SDs.ext {ρ ρ' : Rho} (x : Ext ρ ρ') {vs : List (Str × AVal)} {cs : List DictEntry} (h : SDs ρ vs cs) : SDs ρ' vs cs := by
  induction h with
  | nil => exact .nil
  | cons a _ ih => exact .cons (a.ext x) ih

section
variable (prog : Program) (w : World)
noncomputable def ObjAt (ρ : Rho) : AObj → Heap → Addr → Prop
  | .list vs, h, a => ∃ its, h.PlainList a its ∧ VRs ρ vs its.toList
  | .tuple vs, h, a => ∃ its n, h.get? a = some { cls := .type "tuple", data := .seq its n } ∧ VRs ρ vs its.toList
  | .dict ep kvs, h, a => ∃ cvs, h.DictAt (intKind prog w) a cvs ep ∧ VPs ρ kvs cvs
  | .set ks, h, a => h.SetOf (intKind prog w) a (fun k => decide (k ∈ ks)) ks.length
  | .iter l k, h, a => ∃ b sl, ρ[l]? = some b ∧ h.get? a = some ⟨.type "list_iterator", none, .fields #[.ref b, .int k 0], sl⟩
  | .nextm it, h, a => ∃ b, ρ[it]? = some b ∧ h.get? a = some { cls := .type "method-wrapper", data := .fields #[.builtin "list_iterator.__next__", .ref b] }
  | .inst C d sl, h, a => ∃ b cs, ρ[d]? = some b ∧ h.get? a = some ⟨.ref C, some b, .plain, cs⟩ ∧ VOs ρ sl cs.toList
  | .sdict kvs, h, a => ∃ es n, h.get? a = some (dictOf es n) ∧ SDs ρ kvs es
  | .range x y z, h, a => ∃ t u v, IsRange h a x y z t u v
  | .items d, h, a => ∃ b, ρ[d]? = some b ∧ h.IsItemsView a b
  | .values d, h, a => ∃ b, ρ[d]? = some b ∧ h.IsValuesView a b
  | .dead, h, a => ∃ o, h.get? a = some o
  | .ddict kvs, h, a => ∃ cvs, h.DictOf (intKind prog w) a cvs ∧ VPs ρ kvs cvs

variable {prog w}
theorem ObjAt.ext {ρ ρ' : Rho} (x : Ext ρ ρ') {o : AObj} {h : Heap} {a : Addr} (H : ObjAt prog w ρ o h a) : ObjAt prog w ρ' o h a := by
  cases o with
  | list vs => obtain ⟨its, h1, h2⟩ := H; exact ⟨its, h1, h2.ext x⟩
  | tuple vs => obtain ⟨its, n, h1, h2⟩ := H; exact ⟨its, n, h1, h2.ext x⟩
  | dict ep kvs => obtain ⟨its, h1, h2⟩ := H; exact ⟨its, h1, h2.ext x⟩
  | set ks => exact H
  | iter l k => obtain ⟨b, sl, h1, h2⟩ := H; exact ⟨b, sl, x _ _ h1, h2⟩
  | nextm l => obtain ⟨b, h1, h2⟩ := H; exact ⟨b, x _ _ h1, h2⟩
  | inst C d sl => obtain ⟨b, cs, h1, h2, h3⟩ := H; exact ⟨b, cs, x _ _ h1, h2, h3.ext x⟩
  | sdict kvs => obtain ⟨es, n, h1, h2⟩ := H; exact ⟨es, n, h1, h2.ext x⟩
  | range p q r => exact H
  | items d => obtain ⟨b, h1, h2⟩ := H; exact ⟨b, x _ _ h1, h2⟩
  | values d => obtain ⟨b, h1, h2⟩ := H; exact ⟨b, x _ _ h1, h2⟩
  | dead => exact H
  | ddict kvs => obtain ⟨its, h1, h2⟩ := H; exact ⟨its, h1, h2.ext x⟩
theorem ObjAt.at {ρ : Rho} {o : AObj} {h h' : Heap} {a : Addr} (H : ObjAt prog w ρ o h a) (e : ∀ o, h.get? a = some o → h'.get? a = some o) : ObjAt prog w ρ o h' a := by
  cases o with
  | list vs => obtain ⟨its, ⟨n, h1⟩, h2⟩ := H; exact ⟨its, ⟨n, e _ h1⟩, h2⟩
  | tuple vs => obtain ⟨its, n, h1, h2⟩ := H; exact ⟨its, n, e _ h1, h2⟩
  | dict ep kvs => obtain ⟨its, ⟨o, es, h1, r⟩, h2⟩ := H; exact ⟨its, ⟨o, es, e _ h1, r⟩, h2⟩
  | set ks => obtain ⟨o, es, ep, t, h1, r⟩ := H; exact ⟨o, es, ep, t, e _ h1, r⟩
  | iter l k => obtain ⟨b, sl, h1, h2⟩ := H; exact ⟨b, sl, h1, e _ h2⟩
  | nextm l => obtain ⟨b, h1, h2⟩ := H; exact ⟨b, h1, e _ h2⟩
  | inst C d sl => obtain ⟨b, cs, h1, h2, h3⟩ := H; exact ⟨b, cs, h1, e _ h2, h3⟩
  | sdict kvs => obtain ⟨es, n, h1, r⟩ := H; exact ⟨es, n, e _ h1, r⟩
  | range p q r => obtain ⟨t, u, v, h1⟩ := H; exact ⟨t, u, v, e _ h1⟩
  | items d => obtain ⟨b, h1, o, h2, h3⟩ := H; exact ⟨b, h1, o, e _ h2, h3⟩
  | values d => obtain ⟨b, h1, o, h2, h3⟩ := H; exact ⟨b, h1, o, e _ h2, h3⟩
  | dead => obtain ⟨o, h1⟩ := H; exact ⟨o, e _ h1⟩
  | ddict kvs => obtain ⟨its, ⟨o, es, ep, h1, r⟩, h2⟩ := H; exact ⟨its, ⟨o, es, ep, e _ h1, r⟩, h2⟩
theorem ObjAt.alive {ρ : Rho} {o : AObj} {h : Heap} {a : Addr} (H : ObjAt prog w ρ o h a) : ∃ c, h.get? a = some c := by
  cases o with
  | list vs => obtain ⟨its, ⟨n, h1⟩, h2⟩ := H; exact ⟨_, h1⟩
  | tuple vs => obtain ⟨its, n, h1, h2⟩ := H; exact ⟨_, h1⟩
  | dict ep kvs => obtain ⟨its, ⟨o, es, h1, r⟩, h2⟩ := H; exact ⟨_, h1⟩
  | set ks => obtain ⟨o, es, ep, t, h1, r⟩ := H; exact ⟨_, h1⟩
  | iter l k => obtain ⟨b, sl, h1, h2⟩ := H; exact ⟨_, h2⟩
  | nextm l => obtain ⟨b, h1, h2⟩ := H; exact ⟨_, h2⟩
  | inst C d sl => obtain ⟨b, cs, h1, h2, h3⟩ := H; exact ⟨_, h2⟩
  | sdict kvs => obtain ⟨es, n, h1, r⟩ := H; exact ⟨_, h1⟩
  | range p q r => obtain ⟨t, u, v, h1⟩ := H; exact ⟨_, h1⟩
  | items d => obtain ⟨b, h1, o, h2, h3⟩ := H; exact ⟨_, h2⟩
  | values d => obtain ⟨b, h1, o, h2, h3⟩ := H; exact ⟨_, h2⟩
  | dead => exact H
  | ddict kvs => obtain ⟨its, ⟨o, es, ep, h1, r⟩, h2⟩ := H; exact ⟨_, h1⟩
end

/-- the heap's part of the relation -/
structure RelH (prog : Program) (w : World) (h₀ : Heap) (ρ : Rho) (H : List AObj) (h : Heap) : Prop where
  keep : ∀ b o, h₀.get? b = some o → h.get? b = some o
  len : ρ.length = H.length
  nd : ρ.Nodup
  objs : ∀ (i : Nat) (o : AObj) (a : Addr), H[i]? = some o → ρ[i]? = some a → ObjAt prog w ρ o h a
  own : ∀ a ∈ ρ, h₀.get? a = none
  mods : ∀ a ∈ ρ, (a == sysModules) = false
  big : ∃ o, h₀.get? cStatics = some o

/-- whose addresses a frame owns -/
noncomputable def Fa (env : Env) (a : Addr) : Prop := a = env.locals ∨ ∃ x, env.cells.lookup x = some a

/-- kept, but for the slots of a frame's namespace -/
noncomputable def Kp (o o' : Obj) : Prop := o' = o ∨ ∃ es ep sl, o.data = .dict es ep ∧ o' = { o with slots := sl }
theorem Kp.refl (o : Obj) : Kp o o := .inl rfl
theorem Kp.data {o o' : Obj} (h : Kp o o') : o'.data = o.data := by
  rcases h with rfl | ⟨_, _, _, _, rfl⟩ <;> rfl
theorem Kp.trans {o o' o'' : Obj} (h : Kp o o') (h' : Kp o' o'') : Kp o o'' := by
  rcases h with rfl | ⟨es, ep, sl, h1, rfl⟩
  · exact h'
  · rcases h' with rfl | ⟨es', ep', sl', h2, rfl⟩
    · exact .inr ⟨es, ep, sl, h1, rfl⟩
    · exact .inr ⟨es, ep, sl', h1, rfl⟩
theorem Kp.eq {o o' : Obj} (h : Kp o o') (hn : ∀ es ep, o.data ≠ .dict es ep) : o' = o := by
  rcases h with rfl | ⟨es, ep, _, h, _⟩
  · rfl
  · exact absurd h (hn es ep)
theorem Kp.ns {h h' : Heap} {a : Addr} {m : Str → Option Value} (n : h.Ns a m) (k : ∀ o, h.get? a = some o → ∃ o', h'.get? a = some o' ∧ Kp o o') : h'.Ns a m := by
  obtain ⟨o, es, ep, g, d, r⟩ := n
  obtain ⟨o', g', kp⟩ := k o g
  exact ⟨o', es, ep, g', kp.data.trans d, r⟩

/-- the frames around are there -/
noncomputable def FsOk (h₀ : Heap) (fs : Option (List Env)) (ρ : Rho) (h : Heap) : Prop :=
  ∃ l, fs = some l ∧ ∀ e ∈ l, e.scope.kind ≠ .module ∧ ∃ L o es ep, e.frame = some L ∧ L ∉ ρ ∧ h₀.get? L = none ∧ h.get? L = some o ∧ o.data = .dict es ep
theorem FsOk.keeps {h₀ h h' : Heap} {fs : Option (List Env)} {ρ ρ' : Rho} (f : FsOk h₀ fs ρ h)
    (hk : ∀ b o es ep, h.get? b = some o → o.data = .dict es ep → b ∉ ρ → h₀.get? b = none → (∀ l, fs = some l → ∃ e ∈ l, e.frame = some b) → b ∉ ρ' ∧ ∃ o' es' ep', h'.get? b = some o' ∧ o'.data = .dict es' ep') : FsOk h₀ fs ρ' h' := by
  obtain ⟨l, e, f⟩ := f
  refine ⟨l, e, fun x hx => ?_⟩
  obtain ⟨h1, L, o, es, ep, h2, h3, h4, h5, h6⟩ := f x hx
  obtain ⟨h7, o', es', ep', h8, h9⟩ := hk L o es ep h5 h6 h3 h4 (fun l' e' => by rw [e] at e'; cases e'; exact ⟨x, hx, h2⟩)
  exact ⟨h1, L, o', es', ep', h2, h7, h4, h8, h9⟩
theorem FsOk.same {h₀ h h' : Heap} {fs : Option (List Env)} {ρ : Rho} (f : FsOk h₀ fs ρ h) (hk : ∀ b o, h.get? b = some o → h'.get? b = some o) : FsOk h₀ fs ρ h' :=
  f.keeps fun b o es ep e d hb _ _ => ⟨hb, o, es, ep, hk b o e, d⟩
theorem FsOk.but {h₀ h h' : Heap} {fs : Option (List Env)} {ρ : Rho} (f : FsOk h₀ fs ρ h) {a : Addr} (hs : Heap.ExtBut a h h') (ha : ∀ o es ep, h.get? a = some o → o.data = .dict es ep → (∀ l, fs = some l → ∃ e ∈ l, e.frame = some a) → ∃ o' es' ep', h'.get? a = some o' ∧ o'.data = .dict es' ep') : FsOk h₀ fs ρ h' :=
  f.keeps fun b o es ep e d hb _ hl => ⟨hb, by
    by_cases q : b = a
    · subst q; exact ha o es ep e d hl
    · exact ⟨o, es, ep, hs b o q e, d⟩⟩
/-- no frame of those around -/
noncomputable def NoFr (fs : Option (List Env)) (a : Addr) : Prop := ∀ l, fs = some l → ∀ e ∈ l, e.frame ≠ some a
theorem FsOk.noFr {h₀ h : Heap} {fs : Option (List Env)} {ρ : Rho} (f : FsOk h₀ fs ρ h) {a : Addr} (ha : h.get? a = none) : NoFr fs a := by
  obtain ⟨l, e, f⟩ := f
  intro l' e' x hx q
  rw [e] at e'; cases e'
  obtain ⟨h1, L, o, es, ep, h2, h3, h4, h5, h6⟩ := f x hx
  rw [q] at h2; cases h2
  rw [ha] at h5; cases h5
theorem FsOk.butN {h₀ h h' : Heap} {fs : Option (List Env)} {ρ : Rho} (f : FsOk h₀ fs ρ h) {a : Addr} (hs : Heap.ExtBut a h h') (ha : NoFr fs a) : FsOk h₀ fs ρ h' := by
  refine f.but hs fun o es ep _ _ hl => ?_
  try clear Gol
  refine (let Gol : Prop := _; (?_ : Gol))
  obtain ⟨l, e, _⟩ := f
  obtain ⟨x, hx, q⟩ := hl l e
  exact absurd q (ha l e x hx)

noncomputable abbrev Lo := Str → Option AVal

structure FrOk (h₀ : Heap) (env : Env) (ρ : Rho) (lo : Lo) (h : Heap) : Prop where
  ns : ∃ m, h.Ns env.locals m ∧ ∀ x v, env.kindOf x = some .local → lo x = some v → ∃ c, m x = some c ∧ VR ρ v c
  cel : ∀ x v, (env.kindOf x = some .cell ∨ env.kindOf x = some .free) → lo x = some v → ∃ a c o, env.cells.lookup x = some a ∧ h.get? a = some o ∧ o.data = .cell (some c) ∧ VR ρ v c
  obj : ∀ x a, env.cells.lookup x = some a → ∃ o v, h.get? a = some o ∧ o.data = .cell v
  out : ∀ a, Fa env a → a ∉ ρ ∧ h₀.get? a = none
  ne : ∀ x a, env.cells.lookup x = some a → a ≠ env.locals
  inj : ∀ x y a, env.cells.lookup x = some a → env.cells.lookup y = some a → x = y

structure St where
  lo : Lo
  H : List AObj

structure Rel (prog : Program) (w : World) (h₀ : Heap) (fs : Option (List Env)) (env : Env) (ρ : Rho) (σ : St) (h : Heap) : Prop where
  hp : RelH prog w h₀ ρ σ.H h
  fr : FrOk h₀ env ρ σ.lo h
  fo : FsOk h₀ fs ρ h
  tp : ∃ e₀ outer L, fs = some (e₀ :: outer) ∧ e₀.frame = some L ∧ env.frame = some L

/-- what a step may do: outside of P all stays; what is new was free -/
structure Step (P : Addr → Prop) (ρ ρ' : Rho) (h h' : Heap) : Prop where
  ext : Ext ρ ρ'
  keep : ∀ b o, h.get? b = some o → b ∉ ρ → ¬ P b → ∃ o', h'.get? b = some o' ∧ Kp o o'
  fresh : ∀ a ∈ ρ', a ∉ ρ → h.get? a = none

theorem Step.refl (P : Addr → Prop) (ρ : Rho) (h : Heap) : Step P ρ ρ h h := ⟨.refl _, fun _ o e _ _ => ⟨o, e, .refl _⟩, fun a h1 h2 => absurd h1 h2⟩
theorem Step.trans {P : Addr → Prop} {ρ ρ₁ ρ₂ : Rho} {h h₁ h₂ : Heap} (x : Step P ρ ρ₁ h h₁) (y : Step P ρ₁ ρ₂ h₁ h₂) (hp : ∀ a, P a → a ∉ ρ₂) : Step P ρ ρ₂ h h₂ where
  ext := x.ext.trans y.ext
  keep := fun b o e hb hP => by
    obtain ⟨o', e', k'⟩ := x.keep b o e hb hP
    obtain ⟨o'', e'', k''⟩ := y.keep b o' e' (fun hm => by have := x.fresh b hm hb; rw [e] at this; cases this) hP
    exact ⟨o'', e'', k'.trans k''⟩
  fresh := fun a ha hn => by
    by_cases h1 : a ∈ ρ₁
    · exact x.fresh a h1 hn
    · have h2 := y.fresh a ha h1
      cases q : h.get? a with
      | none => rfl
      | some o =>
        obtain ⟨o', this, _⟩ := x.keep a o q hn (fun hP => hp a hP ha)
        rw [h2] at this; cases this
theorem Step.exact {P : Addr → Prop} {ρ ρ' : Rho} {h h' : Heap} (x : Step P ρ ρ' h h') {b : Addr} {o : Obj} (e : h.get? b = some o) (hb : b ∉ ρ) (hP : ¬ P b) (hn : ∀ es ep, o.data ≠ .dict es ep) : h'.get? b = some o := by
  obtain ⟨o', e', k⟩ := x.keep b o e hb hP
  rw [e', k.eq hn]


theorem Step.weak {P Q : Addr → Prop} {ρ ρ' : Rho} {h h' : Heap} (x : Step P ρ ρ' h h') (hp : ∀ a, P a → Q a) : Step Q ρ ρ' h h' :=
  ⟨x.ext, fun b o e hb hQ => x.keep b o e hb fun hP => hQ (hp b hP), x.fresh⟩

section
variable {prog : Program} {w : World} {h₀ h h' : Heap} {ρ ρ' : Rho} {H : List AObj} {env : Env} {σ : St} {lo : Lo} {fs : Option (List Env)}
theorem RelH.alive (r : RelH prog w h₀ ρ H h) {a : Addr} (ha : a ∈ ρ) : ∃ o, h.get? a = some o := by
  obtain ⟨i, hi⟩ := List.mem_iff_getElem?.mp ha
  have hl : i < H.length := by rw [← r.len]; exact (List.getElem?_eq_some_iff.mp hi).1
  exact (r.objs i H[i] a (by simp [hl]) hi).alive
theorem RelH.keeps (r : RelH prog w h₀ ρ H h) (hk : ∀ b o, h.get? b = some o → h'.get? b = some o) : RelH prog w h₀ ρ H h' where
  keep := fun b o e => hk b o (r.keep b o e)
  len := r.len
  nd := r.nd
  objs := fun i o a e1 e2 => (r.objs i o a e1 e2).at fun o e => hk a o e
  own := r.own
  mods := r.mods
  big := r.big
theorem free_of_ge {h : Heap} {a : Addr} (hge : h.objs.size ≤ a) : h.get? a = none := by
  cases q : h.get? a with
  | none => rfl
  | some o => exact absurd (Heap.lt_size q) (Nat.not_lt.mpr hge)
theorem RelH.high (r : RelH prog w h₀ ρ H h) {a : Addr} (hge : h.objs.size ≤ a) : (a == sysModules) = false := by
  obtain ⟨o, e⟩ := r.big
  have h1 : cStatics < h.objs.size := Heap.lt_size (r.keep _ _ e)
  have h2 : sysModules < a := Nat.lt_trans (by decide) (Nat.lt_of_lt_of_le h1 hge)
  exact beq_eq_false_iff_ne.mpr (Nat.ne_of_gt h2)
theorem RelH.grow2 (r : RelH prog w h₀ ρ H h) (hk : ∀ b o, h.get? b = some o → h'.get? b = some o) {a : Addr} (hn : h.get? a = none) (hmo : (a == sysModules) = false) {o : AObj} (ho : ObjAt prog w (ρ ++ [a]) o h' a) : RelH prog w h₀ (ρ ++ [a]) (H ++ [o]) h' where
  keep := fun b o e => hk b o (r.keep b o e)
  len := by simp [r.len]
  nd := by
    refine List.nodup_append.mpr ⟨r.nd, by simp, fun x hx y hy e => ?_⟩
    obtain ⟨o', e'⟩ := r.alive hx
    have hy' := List.mem_singleton.mp hy
    rw [e, hy', hn] at e'
    cases e'
  objs := fun i o' b e1 e2 => by
    by_cases hi : i < H.length
    · rw [List.getElem?_append_left hi] at e1
      rw [List.getElem?_append_left (by rw [r.len]; exact hi)] at e2
      exact ((r.objs i o' b e1 e2).at fun o e => hk b o e).ext (Ext.snoc ρ a)
    · have hl : i < (H ++ [o]).length := (List.getElem?_eq_some_iff.mp e1).1
      have hi' : i = H.length := by simp at hl; omega
      subst hi'
      rw [List.getElem?_append_right (Nat.le_refl _)] at e1
      rw [← r.len, List.getElem?_append_right (Nat.le_refl _)] at e2
      simp at e1 e2
      subst e1 e2
      exact ho
  own := fun b hb => by
    rcases List.mem_append.mp hb with hb | hb
    · exact r.own b hb
    · rw [List.mem_singleton.mp hb]
      cases q : h₀.get? a with
      | none => rfl
      | some o' => have := r.keep a o' q; rw [hn] at this; cases this
  mods := fun b hb => by
    rcases List.mem_append.mp hb with hb | hb
    · exact r.mods b hb
    · rw [List.mem_singleton.mp hb]; exact hmo
  big := r.big
theorem RelH.grow (r : RelH prog w h₀ ρ H h) (hk : ∀ b o, h.get? b = some o → h'.get? b = some o) {a : Addr} (hge : h.objs.size ≤ a) {o : AObj} (ho : ObjAt prog w (ρ ++ [a]) o h' a) : RelH prog w h₀ (ρ ++ [a]) (H ++ [o]) h' :=
  r.grow2 hk (free_of_ge hge) (r.high hge) ho
theorem Rho.inj (hn : ρ.Nodup) {i j : Nat} {a : Addr} (e1 : ρ[i]? = some a) (e2 : ρ[j]? = some a) : i = j := by
  obtain ⟨h1, e1⟩ := List.getElem?_eq_some_iff.mp e1
  obtain ⟨h2, e2⟩ := List.getElem?_eq_some_iff.mp e2
  exact (List.getElem_inj hn).mp (e1.trans e2.symm)
theorem RelH.upd (r : RelH prog w h₀ ρ H h) {i : Nat} {a : Addr} (ha : ρ[i]? = some a) (hs : Heap.ExtBut a h h') {o : AObj} (ho : ObjAt prog w ρ o h' a) : RelH prog w h₀ ρ (H.set i o) h' where
  keep := fun b o e => hs b o (fun q => by rw [q, r.own a (List.mem_iff_getElem?.mpr ⟨i, ha⟩)] at e; cases e) (r.keep b o e)
  len := by simp [r.len]
  nd := r.nd
  objs := fun j o' b e1 e2 => by
    by_cases hij : i = j
    · subst hij
      rw [ha] at e2
      have hl : i < H.length := by have := (List.getElem?_eq_some_iff.mp e1).1; simpa using this
      rw [List.getElem?_set_self hl] at e1
      cases e1; cases e2
      exact ho
    · rw [List.getElem?_set_ne hij] at e1
      exact (r.objs j o' b e1 e2).at fun o e => hs b o (fun q => hij (Rho.inj r.nd ha (q ▸ e2))) e
  own := r.own
  mods := r.mods
  big := r.big

theorem FrOk.alive (f : FrOk h₀ env ρ lo h) {a : Addr} (ha : Fa env a) : ∃ o, h.get? a = some o := by
  rcases ha with rfl | ⟨x, hx⟩
  · obtain ⟨m, ⟨o, es, ep, e, _⟩, _⟩ := f.ns; exact ⟨o, e⟩
  · obtain ⟨o, v, e, _⟩ := f.obj x a hx; exact ⟨o, e⟩
theorem FrOk.keeps (f : FrOk h₀ env ρ lo h) (x : Ext ρ ρ') (ho : ∀ a, Fa env a → a ∉ ρ') (hk : ∀ b o, Fa env b → h.get? b = some o → ∃ o', h'.get? b = some o' ∧ Kp o o') : FrOk h₀ env ρ' lo h' where
  ns := by
    obtain ⟨m, hn, hm⟩ := f.ns
    exact ⟨m, Kp.ns hn fun o e => hk _ o (.inl rfl) e, fun y v h1 h2 => let ⟨c, e1, e2⟩ := hm y v h1 h2; ⟨c, e1, e2.ext x⟩⟩
  cel := fun y v h1 h2 => let ⟨a, c, o, e1, e2, e3, e4⟩ := f.cel y v h1 h2; let ⟨o', e5, e6⟩ := hk _ _ (.inr ⟨y, e1⟩) e2; ⟨a, c, o', e1, e5, e6.data.trans e3, e4.ext x⟩
  obj := fun y a e => let ⟨o, v, e1, e2⟩ := f.obj y a e; let ⟨o', e5, e6⟩ := hk _ _ (.inr ⟨y, e⟩) e1; ⟨o', v, e5, e6.data.trans e2⟩
  out := fun a ha => ⟨ho a ha, (f.out a ha).2⟩
  ne := f.ne
  inj := f.inj
theorem Step.out {P : Addr → Prop} (st : Step P ρ ρ' h h') (f : FrOk h₀ env ρ lo h) : ∀ a, Fa env a → a ∉ ρ' := fun a ha hm => by
  obtain ⟨o, e⟩ := f.alive ha
  have := st.fresh a hm (f.out a ha).1
  rw [e] at this; cases this
theorem FsOk.step (st : Step (fun _ => False) ρ ρ' h h') (f : FsOk h₀ fs ρ h) : FsOk h₀ fs ρ' h' :=
  f.keeps fun b o es ep e d hb _ _ => by
    refine ⟨fun hm => ?_, ?_⟩
    · have := st.fresh b hm hb
      rw [e] at this; cases this
    · obtain ⟨o', e', k⟩ := st.keep b o e hb id
      exact ⟨o', es, ep, e', k.data.trans d⟩
/-- a step of the heap alone -/
theorem Rel.heap (r : Rel prog w h₀ fs env ρ σ h) (st : Step (fun _ => False) ρ ρ' h h') {H' : List AObj} (r' : RelH prog w h₀ ρ' H' h') : Rel prog w h₀ fs env ρ' ⟨σ.lo, H'⟩ h' :=
  ⟨r', r.fr.keeps st.ext (st.out r.fr) fun b o hb e => st.keep b o e (r.fr.out b hb).1 id, r.fo.step st, r.tp⟩
theorem Rel.same (r : Rel prog w h₀ fs env ρ σ h) (hk : ∀ b o, h.get? b = some o → h'.get? b = some o) : Rel prog w h₀ fs env ρ σ h' :=
  ⟨r.hp.keeps hk, r.fr.keeps (.refl _) (fun a ha => (r.fr.out a ha).1) fun b o _ e => ⟨o, hk b o e, .refl _⟩, r.fo.same hk, r.tp⟩
theorem Step.same {P : Addr → Prop} (hk : ∀ b o, h.get? b = some o → h'.get? b = some o) : Step P ρ ρ h h' := ⟨.refl _, fun b o e _ _ => ⟨o, hk b o e, .refl _⟩, fun a h1 h2 => absurd h1 h2⟩
theorem Step.grow {P : Addr → Prop} (hk : ∀ b o, h.get? b = some o → h'.get? b = some o) {a : Addr} (hn : h.get? a = none) : Step P ρ (ρ ++ [a]) h h' :=
  ⟨Ext.snoc ρ a, fun b o e _ _ => ⟨o, hk b o e, .refl _⟩, fun b h1 h2 => by
    rcases List.mem_append.mp h1 with q | q
    · exact absurd q h2
    · rw [List.mem_singleton.mp q]; exact hn⟩
theorem Step.upd {P : Addr → Prop} {a : Addr} (ha : a ∈ ρ) (hs : Heap.ExtBut a h h') : Step P ρ ρ h h' := ⟨.refl _, fun b o e hb _ => ⟨o, hs b o (fun q => hb (q ▸ ha)) e, .refl _⟩, fun a h1 h2 => absurd h1 h2⟩

theorem Rel.grow (r : Rel prog w h₀ fs env ρ σ h) (hk : ∀ b o, h.get? b = some o → h'.get? b = some o) {a : Addr} (hge : h.objs.size ≤ a) {o : AObj} (ho : ObjAt prog w (ρ ++ [a]) o h' a) :
    Rel prog w h₀ fs env (ρ ++ [a]) ⟨σ.lo, σ.H ++ [o]⟩ h' := r.heap (.grow hk (free_of_ge hge)) (r.hp.grow hk hge ho)
theorem Rel.upd (r : Rel prog w h₀ fs env ρ σ h) {i : Nat} {a : Addr} (ha : ρ[i]? = some a) (hs : Heap.ExtBut a h h') {o : AObj} (ho : ObjAt prog w ρ o h' a) :
    Rel prog w h₀ fs env ρ ⟨σ.lo, σ.H.set i o⟩ h' := r.heap (.upd (List.mem_iff_getElem?.mpr ⟨i, ha⟩) hs) (r.hp.upd ha hs ho)

noncomputable def put (lo : Lo) (x : Str) (v : AVal) : Lo := fun y => if y = x then some v else lo y
theorem Rel.store (r : Rel prog w h₀ fs env ρ σ h) {x : Str} {v : AVal} {c : Value} {m : Str → Option Value} (hx : env.kindOf x = some .local) (hm : h.Ns env.locals m)
    (hn : h'.Ns env.locals (fun y => if y = x then some c else m y)) (hs : Heap.ExtBut env.locals h h') (hv : VR ρ v c) : Rel prog w h₀ fs env ρ ⟨put σ.lo x v, σ.H⟩ h' := by
  have ne : ∀ a ∈ ρ, a ≠ env.locals := fun a ha q => (r.fr.out env.locals (.inl rfl)).1 (q ▸ ha)
  refine ⟨⟨fun b o e => hs b o (fun q => ?_) (r.hp.keep b o e), r.hp.len, r.hp.nd, fun i o a e1 e2 => (r.hp.objs i o a e1 e2).at fun o e => hs a o (ne a (List.mem_iff_getElem?.mpr ⟨i, e2⟩)) e, r.hp.own, r.hp.mods, r.hp.big⟩,
    ⟨⟨_, hn, fun y u h1 h2 => ?_⟩, fun y u h1 h2 => ?_, fun y a e => ?_, r.fr.out, r.fr.ne, r.fr.inj⟩, r.fo.but hs fun o es ep _ _ _ => by obtain ⟨o', es', ep', e1, e2, _⟩ := hn; exact ⟨o', es', ep', e1, e2⟩, r.tp⟩
  · rw [q, (r.fr.out env.locals (.inl rfl)).2] at e; cases e
  · unfold put at h2
    by_cases hy : y = x
    · simp only [hy, if_true, Option.some.injEq] at h2 ⊢; subst h2; exact ⟨c, rfl, hv⟩
    · simp only [hy, if_false] at h2 ⊢
      obtain ⟨m', hm', hl⟩ := r.fr.ns
      obtain ⟨c', e1, e2⟩ := hl y u h1 h2
      refine ⟨c', ?_, e2⟩
      obtain ⟨o1, es1, ep1, g1, d1, k1, f1⟩ := hm
      obtain ⟨o2, es2, ep2, g2, d2, k2, f2⟩ := hm'
      rw [g1] at g2; cases g2
      rw [d1] at d2; cases d2
      rw [← f1, f2]; exact e1
  · have hy : y ≠ x := fun q => by subst q; rw [hx] at h1; rcases h1 with q | q <;> cases q
    have h2 : σ.lo y = some u := by simpa [put, hy] using h2
    obtain ⟨a, c', o, e1, e2, e3, e4⟩ := r.fr.cel y u h1 h2
    exact ⟨a, c', o, e1, hs a o (r.fr.ne y a e1) e2, e3, e4⟩
  · obtain ⟨o, u, e1, e2⟩ := r.fr.obj y a e
    exact ⟨o, u, hs a o (r.fr.ne y a e) e1, e2⟩
theorem Rel.storeCell (r : Rel prog w h₀ fs env ρ σ h) {x : Str} {a : Addr} {v : AVal} {c : Value} {o : Obj} (hx : env.kindOf x = some .cell ∨ env.kindOf x = some .free) (ha : env.cells.lookup x = some a)
    (ho : h'.get? a = some o) (hd : o.data = .cell (some c)) (hs : Heap.ExtBut a h h') (hv : VR ρ v c) : Rel prog w h₀ fs env ρ ⟨put σ.lo x v, σ.H⟩ h' := by
  have ne : ∀ b ∈ ρ, b ≠ a := fun b hb q => (r.fr.out a (.inr ⟨x, ha⟩)).1 (q ▸ hb)
  refine ⟨⟨fun b o e => hs b o (fun q => ?_) (r.hp.keep b o e), r.hp.len, r.hp.nd, fun i o b e1 e2 => (r.hp.objs i o b e1 e2).at fun o e => hs b o (ne b (List.mem_iff_getElem?.mpr ⟨i, e2⟩)) e, r.hp.own, r.hp.mods, r.hp.big⟩,
    ⟨?_, fun y u h1 h2 => ?_, fun y b e => ?_, r.fr.out, r.fr.ne, r.fr.inj⟩, r.fo.but hs fun o' es ep e1 e2 _ => by
      obtain ⟨o3, v3, e3, e4⟩ := r.fr.obj x a ha
      rw [e1] at e3; cases e3; rw [e2] at e4; exact absurd e4 (by intro q; cases q), r.tp⟩
  · rw [q, (r.fr.out a (.inr ⟨x, ha⟩)).2] at e; cases e
  · obtain ⟨m, hn, hl⟩ := r.fr.ns
    refine ⟨m, hn.at' fun o e => hs _ o (Ne.symm (r.fr.ne x a ha)) e, fun y u h1 h2 => ?_⟩
    have hy : y ≠ x := fun q => by subst q; rw [h1] at hx; rcases hx with q | q <;> cases q
    have h2 : σ.lo y = some u := by simpa [put, hy] using h2
    exact hl y u h1 h2
  · unfold put at h2
    by_cases hy : y = x
    · subst hy
      simp only [if_true, Option.some.injEq] at h2
      subst h2
      exact ⟨a, c, o, ha, ho, hd, hv⟩
    · have h2 : σ.lo y = some u := by simpa [hy] using h2
      obtain ⟨b, c', o', e1, e2, e3, e4⟩ := r.fr.cel y u h1 h2
      exact ⟨b, c', o', e1, hs b o' (fun q => hy (r.fr.inj y x a (q ▸ e1) ha)) e2, e3, e4⟩
  · by_cases hb : b = a
    · subst hb; exact ⟨o, _, ho, hd⟩
    · obtain ⟨o', u, e1, e2⟩ := r.fr.obj y b e
      exact ⟨o', u, hs b o' hb e1, e2⟩
theorem Step.frame {a : Addr} (ha : Fa env a) (hs : Heap.ExtBut a h h') : Step (Fa env) ρ ρ h h' := ⟨.refl _, fun b o e _ hb => ⟨o, hs b o (fun q => hb (q ▸ ha)) e, .refl _⟩, fun a h1 h2 => absurd h1 h2⟩
end

/-- flows -/
inductive AFlow where
  | next | brk | cont
  | ret (v : AVal)
noncomputable def FR (ρ : Rho) : AFlow → Flow → Prop
  | .next, f => f = .next
  | .brk, f => f = .brk
  | .cont, f => f = .cont
  | .ret v, f => ∃ c, f = .ret c ∧ VR ρ v c

noncomputable abbrev M := StateT St Option

/-- a tree does what the denotation says -/
noncomputable def Sim (prog : Program) (w : World) (h₀ : Heap) {α β : Type} (A : Around) (env : Env) (ρ₀ : Rho) (t : Sem β) (R : Rho → α → β → Prop) (d : M α) : Prop :=
  ∀ (s : Shared) (ρ : Rho) (σ : St), Ext ρ₀ ρ → Rel prog w h₀ A.frames env ρ σ s.heap → ∀ (v : α) (σ' : St), d σ = some (v, σ') → ∀ (Q : β → Shared → Prop) (E : Value → Shared → Prop),
    (∀ c h' tk ρ', R ρ' v c → Rel prog w h₀ A.frames env ρ' σ' h' → Step (Fa env) ρ ρ' s.heap h' → Q c { s with heap := h', toks := tk }) → wpAny (model prog w) A t Q E s

theorem bind_some {α β : Type} {d : M α} {f : α → M β} {σ : St} {p : β × St} (h : (d >>= f) σ = some p) : ∃ a σ₁, d σ = some (a, σ₁) ∧ f a σ₁ = some p := by
  have h2 : (d σ).bind (fun p => f p.1 p.2) = some p := h
  cases q : d σ with
  | none => rw [q] at h2; cases h2
  | some p => rw [q] at h2; exact ⟨p.1, p.2, rfl, h2⟩
theorem bind_k {α β : Type} {d : M α} {f : α → M β} {σ : St} {p : β × St} {G : Prop} (h : (d >>= f) σ = some p) (k : ∀ a σ₁, d σ = some (a, σ₁) → f a σ₁ = some p → G) : G := by
  obtain ⟨a, σ₁, e1, e2⟩ := bind_some h
  exact k a σ₁ e1 e2
theorem pure_some {α : Type} {v v' : α} {σ σ' : St} (h : (pure v : M α) σ = some (v', σ')) : v' = v ∧ σ' = σ := by
  have : some (v, σ) = some (v', σ') := h
  cases this; exact ⟨rfl, rfl⟩

section
variable {prog : Program} {w : World} {h₀ : Heap} {α β γ δ : Type} {A : Around} {env : Env} {ρ₀ : Rho} {fs : Option (List Env)}
theorem Rel.trans {ρ ρ₁ ρ₂ : Rho} {σ : St} {h h₁ h₂ : Heap} (r : Rel prog w h₀ fs env ρ₂ σ h₂) (x : Step (Fa env) ρ ρ₁ h h₁) (y : Step (Fa env) ρ₁ ρ₂ h₁ h₂) : Step (Fa env) ρ ρ₂ h h₂ :=
  x.trans y fun a ha => (r.fr.out a ha).1
end

/-- what is known of the world around -/
structure AOk (hd : Bool) (k : Nat) (A : Around) : Prop where
  handled : hd = true → A.handled = none
  depth : A.depth + k ≤ 900
  units : A.units + 20 * k ≤ 9800
theorem AOk.room {hd : Bool} {k : Nat} {A : Around} (h : AOk hd k A) : A.depth < recursionLimit := by have := h.depth; have : recursionLimit = 1000 := rfl; omega
theorem AOk.deeper {hd : Bool} {k : Nat} {A : Around} (h : AOk hd (k + 1) A) (env : Env) : AOk hd k (A.deeper env) :=
  ⟨h.handled, by have := h.depth; show A.depth + 1 + k ≤ 900; omega, by have := h.units; show A.units + 3 + 20 * k ≤ 9800; omega⟩

structure EOk (sc : Scope) (env : Env) : Prop where
  scope : env.scope = sc
  globals : env.globals = mainGlobals
  builtins : env.builtins = builtinsNs
  fn : sc.kind = .function
  cells : ∀ x, sc.names.lookup x = some .cell → (env.cells.lookup x).isSome = true

/-- the static ground -/
structure Gnd (K : Frag) (h₀ : Heap) : Prop where
  X : K.In h₀
  g : ∃ mg, h₀.Ns mainGlobals mg
  b : ∃ mb, h₀.Ns builtinsNs mb ∧ ∀ x : Str, x ≠ "__name__" → mb x = bootBuiltins x
  lim : h₀.NoLimit

noncomputable def SimE (prog : Program) (w : World) (h₀ : Heap) (hd : Bool) (k : Nat) (sc : Scope) (e : Expr) (d : M AVal) : Prop :=
  ∀ A env ρ₀, AOk hd k A → EOk sc env → Sim prog w h₀ A env ρ₀ (eval e env) VR d
noncomputable def SimT (prog : Program) (w : World) (h₀ : Heap) (hd : Bool) (k : Nat) (sc : Scope) (e : Expr) (d : M Bool) : Prop :=
  ∀ A env ρ₀, AOk hd k A → EOk sc env → Sim prog w h₀ A env ρ₀ (isTrue e env (eval e env)) (fun _ b c => c = b) d
noncomputable def SimS (prog : Program) (w : World) (h₀ : Heap) (hd : Bool) (k : Nat) (sc : Scope) (st : Stmt) (d : M AFlow) : Prop :=
  ∀ A env ρ₀, AOk hd k A → EOk sc env → Sim prog w h₀ A env ρ₀ (exec st env) FR d
noncomputable def SimB (prog : Program) (w : World) (h₀ : Heap) (hd : Bool) (k : Nat) (sc : Scope) (sts : List Stmt) (d : M AFlow) : Prop :=
  ∀ A env ρ₀, AOk hd k A → EOk sc env → Sim prog w h₀ A env ρ₀ (execs sts env) FR d

/-- a call of an own def, of a value: the heap alone -/
noncomputable def SimF (prog : Program) (w : World) (h₀ : Heap) (k : Nat) (f : Value) (vs : List AVal) (d : List AObj → Option (AVal × List AObj)) : Prop :=
  ∀ (A : Around) (s : Shared) (ρ : Rho) (H : List AObj) (cs : List Value), AOk true k A → RelH prog w h₀ ρ H s.heap → FsOk h₀ A.frames ρ s.heap → VRs ρ vs cs → ∀ (v : AVal) (H' : List AObj), d H = some (v, H') →
    ∀ R : Result → Shared → Prop, (∀ c h' tk ρ', VR ρ' v c → RelH prog w h₀ ρ' H' h' → Step (fun _ => False) ρ ρ' s.heap h' → R (.ok (.ret c)) { s with heap := h', toks := tk }) →
    codeAny (model prog w) A (.call f ⟨cs, []⟩) R s
end Mine
end

section
open PySem PySem.W PyProof.Rows
set_option autoImplicit false
set_option linter.unusedVariables false
namespace Mine

noncomputable def fail {α : Type} : M α := fun _ => none
noncomputable def getV (x : Str) : M AVal := fun σ => (σ.lo x).map (·, σ)
noncomputable def setV (x : Str) (v : AVal) : M Unit := fun σ => some ((), ⟨put σ.lo x v, σ.H⟩)
noncomputable def getO (i : Nat) : M AObj := fun σ => (σ.H[i]?).map (·, σ)
noncomputable def setO (i : Nat) (o : AObj) : M Unit := fun σ => some ((), ⟨σ.lo, σ.H.set i o⟩)
noncomputable def newO (o : AObj) : M AVal := fun σ => some (.ref σ.H.length, ⟨σ.lo, σ.H ++ [o]⟩)
noncomputable def onH (d : List AObj → Option (AVal × List AObj)) : M AVal := fun σ => (d σ.H).map fun p => (p.1, ⟨σ.lo, p.2⟩)

theorem getV_some {x : Str} {σ σ' : St} {v : AVal} (h : getV x σ = some (v, σ')) : σ.lo x = some v ∧ σ' = σ := by
  unfold getV at h
  obtain ⟨a, h1, h2⟩ := Option.map_eq_some_iff.mp h
  cases h2; exact ⟨h1, rfl⟩
theorem getO_some {i : Nat} {σ σ' : St} {v : AObj} (h : getO i σ = some (v, σ')) : σ.H[i]? = some v ∧ σ' = σ := by
  unfold getO at h
  obtain ⟨a, h1, h2⟩ := Option.map_eq_some_iff.mp h
  cases h2; exact ⟨h1, rfl⟩
theorem onH_some {d : List AObj → Option (AVal × List AObj)} {σ σ' : St} {v : AVal} (h : onH d σ = some (v, σ')) : ∃ H', d σ.H = some (v, H') ∧ σ' = ⟨σ.lo, H'⟩ := by
  unfold onH at h
  obtain ⟨a, h1, h2⟩ := Option.map_eq_some_iff.mp h
  cases h2; exact ⟨a.2, h1, rfl⟩
theorem fail_some {α : Type} {σ : St} {p : α × St} (h : (fail : M α) σ = some p) : False := by cases h

section
variable {prog : Program} {w : World} {h₀ : Heap} {hd : Bool} {k : Nat} {sc : Scope} {K : Frag}

theorem getK {ρ : Rho} {H : List AObj} {h : Heap} (r : RelH prog w h₀ ρ H h) {i : Nat} {o : AObj} (e : H[i]? = some o) : ∃ a, ρ[i]? = some a ∧ ObjAt prog w ρ o h a := by
  have hl : i < H.length := (List.getElem?_eq_some_iff.mp e).1
  have hl' : i < ρ.length := by rw [r.len]; exact hl
  exact ⟨ρ[i], by simp [hl'], r.objs i o _ e (by simp [hl'])⟩
theorem getK_k {ρ : Rho} {H : List AObj} {h : Heap} {G : Prop} (r : RelH prog w h₀ ρ H h) {i : Nat} {o : AObj} (e : H[i]? = some o) (k : ∀ a, ρ[i]? = some a → ObjAt prog w ρ o h a → G) : G := by
  obtain ⟨a, e1, e2⟩ := getK r e
  exact k a e1 e2
theorem VR.refAt {ρ : Rho} {i : Nat} {c : Value} {a : Addr} (h : VR ρ (.ref i) c) (e : ρ[i]? = some a) : c = .ref a := by
  obtain ⟨b, e1, e2⟩ := h; rw [e] at e1; cases e1; exact e2

/-- a leaf that does nothing to the heap -/
theorem Sim.leaf {α β : Type} {A : Around} {env : Env} {ρ₀ : Rho} {t : Sem β} {R : Rho → α → β → Prop} {v : α}
    (h : ∀ (s : Shared) (ρ : Rho) (σ : St), Ext ρ₀ ρ → Rel prog w h₀ A.frames env ρ σ s.heap → ∀ (Q : β → Shared → Prop) (E : Value → Shared → Prop), (∀ c tk, R ρ v c → Q c { s with toks := tk }) → wpAny (model prog w) A t Q E s) :
    Sim prog w h₀ A env ρ₀ t R (pure v : M α) := by
  intro s ρ σ e r v' σ' hd Q E kk
  obtain ⟨rfl, rfl⟩ := pure_some hd
  exact h s ρ σ' e r Q E fun c tk hR => kk c s.heap tk ρ hR r (.refl ..)

/-! names -/
theorem nm_local {x : Str} {pos : Pos} (hx : sc.names.lookup x = some .local) (hn : (x == ("__debug__" : Str)) = false := by decide) : SimE prog w h₀ hd k sc (.Name x pos) (getV x) := by
  intro A env ρ₀ ha he s ρ σ e r v σ' hd' Q E kk
  refine (let Gol : Prop := _; (?_ : Gol))
  obtain ⟨e1, rfl⟩ := getV_some hd'
  have hx' : env.kindOf x = some .local := by unfold Env.kindOf; rw [he.scope]; exact hx
  obtain ⟨m, hn', hl⟩ := r.fr.ns
  obtain ⟨c, e2, e3⟩ := hl x v hx' e1
  exact wpAny_Name (wpAny_loadName_local (by rw [he.scope]; exact he.fn) hx' hn' e2 (kk c s.heap s.toks ρ e3 r (.refl ..))) hn
theorem nm_cell {x : Str} {pos : Pos} (hx : sc.names.lookup x = some .cell) (hn : (x == ("__debug__" : Str)) = false := by decide) : SimE prog w h₀ hd k sc (.Name x pos) (getV x) := by
  intro A env ρ₀ ha he s ρ σ e r v σ' hd' Q E kk
  refine (let Gol : Prop := _; (?_ : Gol))
  obtain ⟨e1, rfl⟩ := getV_some hd'
  have hx' : env.kindOf x = some .cell := by unfold Env.kindOf; rw [he.scope]; exact hx
  obtain ⟨a, c, o, e2, e3, e4, e5⟩ := r.fr.cel x v (.inl hx') e1
  exact wpAny_Name (wpAny_loadName_cell (by rw [he.scope]; exact he.fn) hx' e2 ⟨o, e3, e4⟩ (kk c s.heap s.toks ρ e5 r (.refl ..))) hn
theorem nm_global (G : Gnd K h₀) {x : Str} {pos : Pos} {v : Value} (hx : sc.names.lookup x = some .globalImplicit) (e : nsIn K mainGlobals x = some (some v)) (hn : (x == ("__debug__" : Str)) = false := by decide) :
    SimE prog w h₀ hd k sc (.Name x pos) (pure (.stat v)) := by
  intro A env ρ₀ ha he
  refine Sim.leaf fun s ρ σ _ r Q E kk => ?_
  try clear Gol
  have hx' : env.kindOf x = some .globalImplicit := by unfold Env.kindOf; rw [he.scope]; exact hx
  obtain ⟨mg, hg⟩ := G.g
  exact Calls.Name_function_global (by rw [he.scope]; exact he.fn) hx' (Calls.loadGlobal_global (by rw [he.globals]; exact hg.keeps r.hp.keep) (mg_of G.X hg e) (kk v s.toks rfl)) hn
theorem nm_builtin (G : Gnd K h₀) {x : Str} {pos : Pos} {v : Value} (hx : sc.names.lookup x = some .globalImplicit) (e : nsIn K mainGlobals x = some none) (hv : bootBuiltins x = some v) (hne : x ≠ "__name__" := by decide) (hn : (x == ("__debug__" : Str)) = false := by decide) :
    SimE prog w h₀ hd k sc (.Name x pos) (pure (.stat v)) := by
  intro A env ρ₀ ha he
  refine Sim.leaf fun s ρ σ _ r Q E kk => ?_
  try clear Gol
  refine (let Gol : Prop := _; (?_ : Gol))
  have hx' : env.kindOf x = some .globalImplicit := by unfold Env.kindOf; rw [he.scope]; exact hx
  obtain ⟨mg, hg⟩ := G.g
  obtain ⟨mb, hb, hb'⟩ := G.b
  exact Calls.Name_function_global (by rw [he.scope]; exact he.fn) hx' (Calls.loadGlobal_builtin (by rw [he.globals]; exact hg.keeps r.hp.keep) (mg_none_of G.X hg e) (by rw [he.builtins]; exact hb.keeps r.hp.keep) ((hb' x hne).trans hv) (kk v s.toks rfl)) hn

/-! constants -/
theorem c_int {i : Int} {n : Nat} {pos : Pos} : SimE prog w h₀ hd k sc (.Constant (.int i) n pos) (pure (.int i)) := fun A env ρ₀ ha he =>
  Sim.leaf fun s ρ σ _ r Q E kk => wpAny_Constant_int (kk _ _ ⟨_, rfl⟩)
theorem c_none {n : Nat} {pos : Pos} : SimE prog w h₀ hd k sc (.Constant .none n pos) (pure .none) := fun A env ρ₀ ha he =>
  Sim.leaf fun s ρ σ _ r Q E kk => wpAny_Constant_none (kk _ s.toks rfl)

/-! operators -/
noncomputable def OpSim (prog : Program) (w : World) (h₀ : Heap) (hd : Bool) (k : Nat) (op : Operator) (dop : AVal → AVal → M AVal) : Prop :=
  ∀ A env ρ a b ca cb, AOk hd k A → VR ρ a ca → VR ρ b cb → Sim prog w h₀ A env ρ (binaryOp op ca cb) VR (dop a b)
theorem binOp {l r : Expr} {op : Operator} {pos : Pos} {dl dr : M AVal} {dop : AVal → AVal → M AVal} (hl : SimE prog w h₀ hd k sc l dl) (hr : SimE prog w h₀ hd k sc r dr)
    (hop : OpSim prog w h₀ hd k op dop) : SimE prog w h₀ hd k sc (.BinOp l op r pos) (do let a ← dl; let b ← dr; dop a b) := by
  intro A env ρ₀ ha he s ρ σ e rr v σ' hd' Q E kk
  refine  bind_k hd' fun a σ₁ e1 hd' => ?_
  refine  bind_k hd' fun b σ₂ e2 e3 => ?_
  refine wpAny_BinOp (hl A env ρ₀ ha he s ρ σ e rr a σ₁ e1 _ _ fun ca h₁ tk₁ ρ₁ R₁ r₁ st₁ => ?_)
  try clear Gol
  refine hr A env ρ₀ ha he _ ρ₁ σ₁ (e.trans st₁.ext) r₁ b σ₂ e2 _ _ fun cb h₂ tk₂ ρ₂ R₂ r₂ st₂ => ?_
  try clear Gol
  refine hop A env ρ₂ a b ca cb ha (R₁.ext st₂.ext) R₂ _ ρ₂ σ₂ (.refl _) r₂ v σ' e3 _ _ fun c h₃ tk₃ ρ₃ R₃ r₃ st₃ => ?_
  try clear Gol
  exact kk c h₃ tk₃ ρ₃ R₃ r₃ (r₃.trans (r₂.trans st₁ st₂) st₃)

noncomputable def addA : AVal → AVal → M AVal
  | .int a, .int b => pure (.int (a + b))
  | .ref i, .ref j => do
    match ← getO i with
    | .list xs => match ← getO j with
      | .list ys => if xs.length + ys.length ≤ 1000 then newO (.list (xs ++ ys)) else fail
      | _ => fail
    | _ => fail
  | _, _ => fail
noncomputable def intsA (f : Int → Int → Option Int) : AVal → AVal → M AVal
  | .int a, .int b => match f a b with | some z => pure (.int z) | none => fail
  | _, _ => fail
theorem op_ints {op : Operator} {f : Int → Int → Option Int} (h : ∀ (A : Around) (s : Shared) (Q : Value → Shared → Prop) (E : Value → Shared → Prop) (a b z : Int) (t u : Tok), f a b = some z → Q (.int z s.toks) { s with toks := s.toks + 1 } → wpAny (model prog w) A (binaryOp op (.int a t) (.int b u)) Q E s) :
    OpSim prog w h₀ hd k op (intsA f) := by
  intro A env ρ a b ca cb hA ha hb s ρ' σ e r v σ' hd' Q E kk
  refine (let Gol : Prop := _; (?_ : Gol))
  cases a with
  | int a =>
    cases b with
    | int b =>
      obtain ⟨t, rfl⟩ := ha
      obtain ⟨u, rfl⟩ := hb
      cases q : f a b with
      | none => simp only [intsA, q] at hd'; exact (fail_some (σ := σ) hd').elim
      | some z =>
        simp only [intsA, q] at hd'
        obtain ⟨rfl, rfl⟩ := pure_some hd'
        exact h A s Q E a b z t u q (kk _ s.heap _ ρ' ⟨_, rfl⟩ r (.refl ..))
    | _ => exact (fail_some (σ := σ) hd').elim
  | _ => cases b <;> exact (fail_some (σ := σ) hd').elim
noncomputable def fAdd (a b : Int) : Option Int := some (a + b)
noncomputable def fSub (a b : Int) : Option Int := some (a - b)
noncomputable def fAnd (a b : Int) : Option Int := some (Builtin.bitAnd a b)
noncomputable def fMul (a b : Int) : Option Int := if b.natAbs < 2 ^ 63 then some (a * b) else none
noncomputable def fMod (a b : Int) : Option Int := if b = 0 then none else some (a.fmod b)
noncomputable def fPow (a b : Int) : Option Int := if 0 ≤ b ∧ b ≤ 1000 ∧ a.natAbs < 2 ^ 63 then some (a ^ b.toNat) else none
noncomputable def fShr (a b : Int) : Option Int := if 0 ≤ b then some (a.fdiv (2 ^ b.toNat)) else none
theorem op_add : OpSim prog w h₀ hd k .Add (intsA fAdd) := op_ints fun A s Q E a b z t u e q => by cases e; exact PyProof.Rows.add_int q
theorem op_sub : OpSim prog w h₀ hd k .Sub (intsA fSub) := op_ints fun A s Q E a b z t u e q => by cases e; exact PyProof.Rows.sub_int q
theorem op_and : OpSim prog w h₀ hd k .BitAnd (intsA fAnd) := op_ints fun A s Q E a b z t u e q => by cases e; exact PyProof.Rows.and_int q
theorem op_mul : OpSim prog w h₀ hd k .Mult (intsA fMul) := op_ints fun A s Q E a b z t u e q => by
  unfold fMul at e; split at e
  · cases e; exact PyProof.Rows.mul_int q (IntMulOk.of_right (intBits_le (by omega)))
  · cases e
theorem op_mod : OpSim prog w h₀ hd k .Mod (intsA fMod) := op_ints fun A s Q E a b z t u e q => by
  unfold fMod at e; split at e
  · cases e
  · cases e; exact PyProof.Rows.mod_int' (by assumption) q
theorem op_pow : OpSim prog w h₀ hd k .Pow (intsA fPow) := op_ints fun A s Q E a b z t u e q => by
  unfold fPow at e; split at e
  · cases e; exact PyProof.Rows.pow_int_small (by omega) (by omega) (by omega) q
  · cases e
theorem op_shr : OpSim prog w h₀ hd k .RShift (intsA fShr) := op_ints fun A s Q E a b z t u e q => by
  unfold fShr at e; split at e
  · cases e; exact PyProof.Rows.rshift_int (by assumption) q
  · cases e

/-! comparisons -/
noncomputable def CmpSim (prog : Program) (w : World) (h₀ : Heap) (hd : Bool) (k : Nat) (op : CmpOp) (dop : AVal → AVal → M Bool) : Prop :=
  ∀ A env ρ a b ca cb, AOk hd k A → VR ρ a ca → VR ρ b cb → Sim prog w h₀ A env ρ (compareOp op ca cb) (fun _ b c => c = .bool b) (dop a b)
theorem cmpE {l r : Expr} {op : CmpOp} {pos : Pos} {dl dr : M AVal} {dop : AVal → AVal → M Bool} (hl : SimE prog w h₀ hd k sc l dl) (hr : SimE prog w h₀ hd k sc r dr)
    (hop : CmpSim prog w h₀ hd k op dop) (hm : behindInMarks op r = false := by with_unfolding_all rfl) : SimE prog w h₀ hd k sc (.Compare l [op] [r] pos) (do let a ← dl; let b ← dr; let c ← dop a b; pure (.bool c)) := by
  intro A env ρ₀ ha he s ρ σ e rr v σ' hd' Q E kk
  refine  bind_k hd' fun a σ₁ e1 hd' => ?_
  refine  bind_k hd' fun b σ₂ e2 hd' => ?_
  refine  bind_k hd' fun c σ₃ e3 e4 => ?_
  obtain ⟨rfl, rfl⟩ := pure_some e4
  refine wpAny_Compare1 (hl A env ρ₀ ha he s ρ σ e rr a σ₁ e1 _ _ fun ca h₁ tk₁ ρ₁ R₁ r₁ st₁ => ?_) hm
  refine hr A env ρ₀ ha he _ ρ₁ σ₁ (e.trans st₁.ext) r₁ b σ₂ e2 _ _ fun cb h₂ tk₂ ρ₂ R₂ r₂ st₂ => ?_
  try clear Gol
  refine hop A env ρ₂ a b ca cb ha (R₁.ext st₂.ext) R₂ _ ρ₂ σ₂ (.refl _) r₂ c σ' e3 _ _ fun cc h₃ tk₃ ρ₃ R₃ r₃ st₃ => ?_
  try clear Gol
  exact kk cc h₃ tk₃ ρ₃ R₃ r₃ (r₃.trans (r₂.trans st₁ st₂) st₃)
theorem cmpT {l r : Expr} {op : CmpOp} {pos : Pos} {dl dr : M AVal} {dop : AVal → AVal → M Bool} (hl : SimE prog w h₀ hd k sc l dl) (hr : SimE prog w h₀ hd k sc r dr)
    (hop : CmpSim prog w h₀ hd k op dop) (hm : behindInMarks op r = false := by with_unfolding_all rfl) : SimT prog w h₀ hd k sc (.Compare l [op] [r] pos) (do let a ← dl; let b ← dr; dop a b) := by
  intro A env ρ₀ ha he s ρ σ e rr v σ' hd' Q E kk
  refine  bind_k hd' fun a σ₁ e1 hd' => ?_
  refine  bind_k hd' fun b σ₂ e2 e3 => ?_
  refine wpAny_isTrue_Compare1 (hl A env ρ₀ ha he s ρ σ e rr a σ₁ e1 _ _ fun ca h₁ tk₁ ρ₁ R₁ r₁ st₁ => ?_) hm
  refine hr A env ρ₀ ha he _ ρ₁ σ₁ (e.trans st₁.ext) r₁ b σ₂ e2 _ _ fun cb h₂ tk₂ ρ₂ R₂ r₂ st₂ => ?_
  try clear Gol
  refine hop A env ρ₂ a b ca cb ha (R₁.ext st₂.ext) R₂ _ ρ₂ σ₂ (.refl _) r₂ v σ' e3 _ _ fun cc h₃ tk₃ ρ₃ R₃ r₃ st₃ => ?_
  try clear Gol
  have R₃' : cc = .bool v := R₃
  subst R₃'
  exact wpAny_truthy_bool (kk v h₃ tk₃ ρ₃ rfl r₃ (r₃.trans (r₂.trans st₁ st₂) st₃))
noncomputable def lift {α : Type} (o : Option α) : M α := fun σ => o.map (·, σ)
noncomputable def cmpI (f : Int → Int → Bool) : AVal → AVal → M Bool
  | .int a, .int b => pure (f a b)
  | _, _ => fail
theorem cmp_ints {op : CmpOp} {f : Int → Int → Bool} (h : ∀ (A : Around) (s : Shared) (Q : Value → Shared → Prop) (E : Value → Shared → Prop) (a b : Int) (t u : Tok), Q (.bool (f a b)) s → wpAny (model prog w) A (compareOp op (.int a t) (.int b u)) Q E s) :
    CmpSim prog w h₀ hd k op (cmpI f) := by
  intro A env ρ a b ca cb hA ha hb s ρ' σ e r v σ' hd' Q E kk
  refine (let Gol : Prop := _; (?_ : Gol))
  cases a with
  | int a =>
    cases b with
    | int b =>
      obtain ⟨t, rfl⟩ := ha
      obtain ⟨u, rfl⟩ := hb
      obtain ⟨rfl, rfl⟩ := pure_some hd'
      exact h A s Q E a b t u (kk _ s.heap s.toks ρ' rfl r (.refl ..))
    | _ => exact (fail_some (σ := σ) hd').elim
  | _ => cases b <;> exact (fail_some (σ := σ) hd').elim
theorem cmp_eq : CmpSim prog w h₀ hd k .Eq (cmpI fun a b => a == b) := cmp_ints fun A s Q E a b t u q => PyProof.Rows.eq_int q
theorem cmp_ne : CmpSim prog w h₀ hd k .NotEq (cmpI fun a b => a != b) := cmp_ints fun A s Q E a b t u q => PyProof.Rows.ne_int q
theorem cmp_lt : CmpSim prog w h₀ hd k .Lt (cmpI fun a b => decide (a < b)) := cmp_ints fun A s Q E a b t u q => PyProof.Rows.lt_int q
theorem cmp_le : CmpSim prog w h₀ hd k .LtE (cmpI fun a b => decide (a ≤ b)) := cmp_ints fun A s Q E a b t u q => PyProof.Rows.le_int q
/-! is -/
noncomputable def isNoneA : AVal → AVal → M Bool
  | .none, .none => pure true
  | .int _, .none => pure false
  | .bool _, .none => pure false
  | .ref _, .none => pure false
  | _, _ => fail
theorem isNone_of {ρ : Rho} {a : AVal} {ca : Value} (ha : VR ρ a ca) {σ σ' : St} {v : Bool} (h : isNoneA a .none σ = some (v, σ')) : (ca == .none) = v ∧ σ' = σ := by
  cases a with
  | none => cases ha; obtain ⟨rfl, rfl⟩ := pure_some h; exact ⟨rfl, rfl⟩
  | int i => obtain ⟨t, rfl⟩ := ha; obtain ⟨rfl, rfl⟩ := pure_some h; exact ⟨rfl, rfl⟩
  | bool b => cases ha; obtain ⟨rfl, rfl⟩ := pure_some h; exact ⟨rfl, rfl⟩
  | ref b => obtain ⟨a, _, rfl⟩ := ha; obtain ⟨rfl, rfl⟩ := pure_some h; exact ⟨rfl, rfl⟩
  | stat b => exact (fail_some (σ := σ) h).elim
theorem cmp_isNone : CmpSim prog w h₀ hd k .Is isNoneA := by
  intro A env ρ a b ca cb hA ha hb s ρ' σ e r v σ' hd' Q E kk
  refine (let Gol : Prop := _; (?_ : Gol))
  cases b with
  | none =>
    cases hb
    obtain ⟨e1, rfl⟩ := isNone_of ha hd'
    exact is_none (kk _ s.heap s.toks ρ' (by rw [e1]) r (.refl ..))
  | _ => cases a <;> exact (fail_some (σ := σ) hd').elim
theorem cmp_isNotNone : CmpSim prog w h₀ hd k .IsNot (fun a b => do let c ← isNoneA a b; pure (!c)) := by
  intro A env ρ a b ca cb hA ha hb s ρ' σ e r v σ' hd' Q E kk
  refine (let Gol : Prop := _; (?_ : Gol))
  refine  bind_k hd' fun c σ₁ e1 e2 => ?_
  obtain ⟨rfl, rfl⟩ := pure_some e2
  cases b with
  | none =>
    cases hb
    obtain ⟨e3, rfl⟩ := isNone_of ha e1
    exact isNot_none (kk _ s.heap s.toks ρ' (by rw [e3]) r (.refl ..))
  | _ => cases a <;> exact (fail_some (σ := σ) e1).elim

/-! statements: names, tests, blocks -/
theorem store_local {A : Around} {env : Env} {ρ₀ : Rho} {x : Str} {v : AVal} {c : Value} (he : EOk sc env) (hx : sc.names.lookup x = some .local) (hv : VR ρ₀ v c) :
    Sim prog w h₀ A env ρ₀ (storeName env x c) (fun _ _ _ => True) (setV x v) := by
  intro s ρ σ e r u σ' hd' Q E kk
  refine (let Gol : Prop := _; (?_ : Gol))
  cases hd'
  have hx' : env.kindOf x = some .local := by unfold Env.kindOf; rw [he.scope]; exact hx
  obtain ⟨m, hn, _⟩ := r.fr.ns
  refine wpAny_storeName_local hx' hn (fun h' hn' hs => kk () h' _ ρ trivial (r.store hx' hn hn' hs.extBut (hv.ext e)) (.frame (.inl rfl) hs.extBut)) ?_
  try clear Gol
  try (unfold Gol; clear Gol)
  rw [he.scope, he.fn]; rfl
theorem store_cell {A : Around} {env : Env} {ρ₀ : Rho} {x : Str} {v : AVal} {c : Value} (he : EOk sc env) (hx : sc.names.lookup x = some .cell) (hv : VR ρ₀ v c) :
    Sim prog w h₀ A env ρ₀ (storeName env x c) (fun _ _ _ => True) (setV x v) := by
  intro s ρ σ e r u σ' hd' Q E kk
  refine (let Gol : Prop := _; (?_ : Gol))
  cases hd'
  have hx' : env.kindOf x = some .cell := by unfold Env.kindOf; rw [he.scope]; exact hx
  obtain ⟨a, ha⟩ := Option.isSome_iff_exists.mp (he.cells x hx)
  obtain ⟨o, v0, e1, e2⟩ := r.fr.obj x a ha
  refine wpAny_storeName_cell (by rw [he.scope]; exact he.fn) hx' ha ⟨o, e1, e2⟩ fun h' hc' hs => ?_
  try clear Gol
  refine (let Gol : Prop := _; (?_ : Gol))
  obtain ⟨o', e3, e4⟩ := hc'
  exact kk () h' _ ρ trivial (r.storeCell (.inl hx') ha e3 e4 hs.extBut (hv.ext e)) (.frame (.inr ⟨x, ha⟩) hs.extBut)

theorem store_any {A : Around} {env : Env} {ρ₀ : Rho} {x : Str} {v : AVal} {c : Value} (he : EOk sc env) (hx : sc.names.lookup x = some .local ∨ sc.names.lookup x = some .cell) (hv : VR ρ₀ v c) :
    Sim prog w h₀ A env ρ₀ (storeName env x c) (fun _ _ _ => True) (setV x v) := hx.elim (fun h => store_local he h hv) fun h => store_cell he h hv

theorem s_assign {x : Str} {value : Expr} {pos' pos : Pos} {dv : M AVal} (hv : SimE prog w h₀ hd k sc value dv) (hx : sc.names.lookup x = some .local ∨ sc.names.lookup x = some .cell)
    (hs : ∀ env, swapsWith value (some (.Name x pos')) pos.line env = pure false := by intro _; rfl) :
    SimS prog w h₀ hd k sc (.Assign [.Name x pos'] value pos) (do let v ← dv; setV x v; pure .next) := by
  intro A env ρ₀ ha he s ρ σ e rr f σ' hd' Q E kk
  refine  bind_k hd' fun v σ₁ e1 hd' => ?_
  refine  bind_k hd' fun _ σ₂ e2 e3 => ?_
  obtain ⟨rfl, rfl⟩ := pure_some e3
  refine wpAny_Assign_Name (hv A env ρ₀ ha he s ρ σ e rr v σ₁ e1 _ _ fun c h₁ tk₁ ρ₁ R₁ r₁ st₁ => ?_) (hs env)
  try clear Gol
  exact store_any he hx R₁ _ ρ₁ σ₁ (.refl _) r₁ () σ' e2 _ _ fun _ h₂ tk₂ ρ₂ _ r₂ st₂ => kk .next h₂ tk₂ ρ₂ rfl r₂ (r₂.trans st₁ st₂)
theorem s_expr {value : Expr} {pos : Pos} {dv : M AVal} (hv : SimE prog w h₀ hd k sc value dv) (hi : ∀ env, EOk sc env → interactive env = false) (hs : ∀ env, swapsWith value none pos.line env = pure false := by intro _; rfl) :
    SimS prog w h₀ hd k sc (.Expr value pos) (do let _ ← dv; pure .next) := by
  intro A env ρ₀ ha he s ρ σ e rr f σ' hd' Q E kk
  refine  bind_k hd' fun v σ₁ e1 e3 => ?_
  obtain ⟨rfl, rfl⟩ := pure_some e3
  exact wpAny_Expr_any (hv A env ρ₀ ha he s ρ σ e rr v σ' e1 _ _ fun c h₁ tk₁ ρ₁ R₁ r₁ st₁ => kk .next h₁ tk₁ ρ₁ rfl r₁ st₁) (hi env he) (hs env)
theorem s_ret {value : Expr} {pos : Pos} {dv : M AVal} (hv : SimE prog w h₀ hd k sc value dv) : SimS prog w h₀ hd k sc (.Return (some value) pos) (do let v ← dv; pure (.ret v)) := by
  intro A env ρ₀ ha he s ρ σ e rr f σ' hd' Q E kk
  refine  bind_k hd' fun v σ₁ e1 e3 => ?_
  obtain ⟨rfl, rfl⟩ := pure_some e3
  exact wpAny_Return_some (hv A env ρ₀ ha he s ρ σ e rr v σ' e1 _ _ fun c h₁ tk₁ ρ₁ R₁ r₁ st₁ => kk (.ret c) h₁ tk₁ ρ₁ ⟨c, rfl, R₁⟩ r₁ st₁)
theorem s_cont {pos : Pos} : SimS prog w h₀ hd k sc (.Continue pos) (pure .cont) := fun A env ρ₀ ha he =>
  Sim.leaf fun s ρ σ _ r Q E kk => wpAny_Continue (kk _ s.toks rfl)
theorem s_brk {pos : Pos} : SimS prog w h₀ hd k sc (.Break pos) (pure .brk) := fun A env ρ₀ ha he =>
  Sim.leaf fun s ρ σ _ r Q E kk => wpAny_Break (kk _ s.toks rfl)
noncomputable def seq (d d' : M AFlow) : M AFlow := do
  match ← d with
  | .next => d'
  | f => pure f
theorem b_nil : SimB prog w h₀ hd k sc [] (pure .next) := fun A env ρ₀ ha he =>
  Sim.leaf fun s ρ σ _ r Q E kk => wpAny_execs_nil (kk _ s.toks rfl)
theorem b_cons {st : Stmt} {rest : List Stmt} {d d' : M AFlow} (h : SimS prog w h₀ hd k sc st d) (h' : SimB prog w h₀ hd k sc rest d') : SimB prog w h₀ hd k sc (st :: rest) (seq d d') := by
  intro A env ρ₀ ha he s ρ σ e rr f σ' hd' Q E kk
  refine  bind_k hd' fun f₁ σ₁ e1 e2 => ?_
  refine wpAny_execs_cons (h A env ρ₀ ha he s ρ σ e rr f₁ σ₁ e1 _ _ fun c h₁ tk₁ ρ₁ R₁ r₁ st₁ => ?_)
  try clear Gol
  refine (let Gol : Prop := _; (?_ : Gol))
  cases f₁ with
  | next =>
    cases R₁
    exact h' A env ρ₀ ha he _ ρ₁ σ₁ (e.trans st₁.ext) r₁ f σ' e2 _ _ fun c₂ h₂ tk₂ ρ₂ R₂ r₂ st₂ => kk c₂ h₂ tk₂ ρ₂ R₂ r₂ (r₂.trans st₁ st₂)
  | brk => cases R₁; obtain ⟨rfl, rfl⟩ := pure_some e2; exact kk .brk h₁ tk₁ ρ₁ rfl r₁ st₁
  | cont => cases R₁; obtain ⟨rfl, rfl⟩ := pure_some e2; exact kk .cont h₁ tk₁ ρ₁ rfl r₁ st₁
  | ret v => obtain ⟨c', rfl, R⟩ := R₁; obtain ⟨rfl, rfl⟩ := pure_some e2; exact kk (.ret c') h₁ tk₁ ρ₁ ⟨c', rfl, R⟩ r₁ st₁
theorem b_one {st : Stmt} {d : M AFlow} (h : SimS prog w h₀ hd k sc st d) : SimB prog w h₀ hd k sc [st] d := by
  intro A env ρ₀ ha he s ρ σ e rr f σ' hd' Q E kk
  refine wpAny_execs_cons (h A env ρ₀ ha he s ρ σ e rr f σ' hd' _ _ fun c h₁ tk₁ ρ₁ R₁ r₁ st₁ => ?_)
  try clear Gol
  refine (let Gol : Prop := _; (?_ : Gol))
  cases f with
  | next => cases R₁; exact wpAny_execs_nil (kk .next h₁ tk₁ ρ₁ rfl r₁ st₁)
  | brk => cases R₁; exact kk .brk h₁ tk₁ ρ₁ rfl r₁ st₁
  | cont => cases R₁; exact kk .cont h₁ tk₁ ρ₁ rfl r₁ st₁
  | ret v => obtain ⟨c', rfl, R⟩ := R₁; exact kk (.ret c') h₁ tk₁ ρ₁ ⟨c', rfl, R⟩ r₁ st₁
theorem s_if {test : Expr} {body orelse : List Stmt} {pos : Pos} {dt : M Bool} {db de : M AFlow} (ht : SimT prog w h₀ hd k sc test dt) (hb : SimB prog w h₀ hd k sc body db) (he' : SimB prog w h₀ hd k sc orelse de) :
    SimS prog w h₀ hd k sc (.If test body orelse pos) (do if ← dt then db else de) := by
  intro A env ρ₀ ha he s ρ σ e rr f σ' hd' Q E kk
  refine  bind_k hd' fun b σ₁ e1 e2 => ?_
  refine wpAny_If (ht A env ρ₀ ha he s ρ σ e rr b σ₁ e1 _ _ fun c h₁ tk₁ ρ₁ R₁ r₁ st₁ => ?_)
  try clear Gol
  refine (let Gol : Prop := _; (?_ : Gol))
  have R₁' : c = b := R₁
  subst R₁'
  cases c with
  | true => exact hb A env ρ₀ ha he _ ρ₁ σ₁ (e.trans st₁.ext) r₁ f σ' e2 _ _ fun c₂ h₂ tk₂ ρ₂ R₂ r₂ st₂ => kk c₂ h₂ tk₂ ρ₂ R₂ r₂ (r₂.trans st₁ st₂)
  | false => exact he' A env ρ₀ ha he _ ρ₁ σ₁ (e.trans st₁.ext) r₁ f σ' e2 _ _ fun c₂ h₂ tk₂ ρ₂ R₂ r₂ st₂ => kk c₂ h₂ tk₂ ρ₂ R₂ r₂ (r₂.trans st₁ st₂)
/-- a test whose else is never walked needs no word for the body -/
theorem s_ifF {test : Expr} {body orelse : List Stmt} {pos : Pos} {dt : M Bool} {de : M AFlow} (ht : SimT prog w h₀ hd k sc test dt) (he' : SimB prog w h₀ hd k sc orelse de) :
    SimS prog w h₀ hd k sc (.If test body orelse pos) (do if ← dt then fail else de) := by
  intro A env ρ₀ ha he s ρ σ e rr f σ' hd' Q E kk
  refine  bind_k hd' fun b σ₁ e1 e2 => ?_
  refine wpAny_If (ht A env ρ₀ ha he s ρ σ e rr b σ₁ e1 _ _ fun c h₁ tk₁ ρ₁ R₁ r₁ st₁ => ?_)
  try clear Gol
  refine (let Gol : Prop := _; (?_ : Gol))
  have R₁' : c = b := R₁
  subst R₁'
  cases c with
  | true => exact (fail_some (σ := σ₁) e2).elim
  | false => exact he' A env ρ₀ ha he _ ρ₁ σ₁ (e.trans st₁.ext) r₁ f σ' e2 _ _ fun c₂ h₂ tk₂ ρ₂ R₂ r₂ st₂ => kk c₂ h₂ tk₂ ρ₂ R₂ r₂ (r₂.trans st₁ st₂)

/-! tests -/
theorem t_and2 {x y : Expr} {pos : Pos} {d d' : M Bool} (h : SimT prog w h₀ hd k sc x d) (h' : SimT prog w h₀ hd k sc y d') : SimT prog w h₀ hd k sc (.BoolOp .And [x, y] pos) (do if ← d then d' else pure false) := by
  intro A env ρ₀ ha he s ρ σ e rr f σ' hd' Q E kk
  refine  bind_k hd' fun b σ₁ e1 e2 => ?_
  refine wpAny_isTrue_BoolOp (wpAny_allTrue_And_cons (h A env ρ₀ ha he s ρ σ e rr b σ₁ e1 _ _ fun c h₁ tk₁ ρ₁ R₁ r₁ st₁ => ?_))
  try clear Gol
  refine (let Gol : Prop := _; (?_ : Gol))
  have R₁' : c = b := R₁
  subst R₁'
  cases c with
  | false => obtain ⟨rfl, rfl⟩ := pure_some e2; exact kk _ h₁ tk₁ ρ₁ rfl r₁ st₁
  | true =>
    refine wpAny_allTrue_And_cons (h' A env ρ₀ ha he _ ρ₁ σ₁ (e.trans st₁.ext) r₁ f σ' e2 _ _ fun c₂ h₂ tk₂ ρ₂ R₂ r₂ st₂ => ?_)
    try clear Gol
    refine (let Gol : Prop := _; (?_ : Gol))
    have R₂' : c₂ = f := R₂
    subst R₂'
    cases c₂ with
    | false => exact kk _ h₂ tk₂ ρ₂ rfl r₂ (r₂.trans st₁ st₂)
    | true => exact wpAny_allTrue_And_nil (kk _ h₂ tk₂ ρ₂ rfl r₂ (r₂.trans st₁ st₂))

/-! while -/
noncomputable def dWhile (dt : M Bool) (db de : M AFlow) : Nat → M AFlow
  | 0 => fail
  | n + 1 => do
    if ← dt then
      match ← db with
      | .brk => pure .next
      | .ret v => pure (.ret v)
      | _ => dWhile dt db de n
    else de
theorem s_while {test : Expr} {body orelse : List Stmt} {pos : Pos} {dt : M Bool} {db de : M AFlow} (n : Nat) (ht : SimT prog w h₀ hd k sc test dt) (hb : SimB prog w h₀ hd k sc body db) (he' : SimB prog w h₀ hd k sc orelse de) :
    SimS prog w h₀ hd k sc (.While test body orelse pos) (dWhile dt db de n) := by
  intro A env ρ₀ ha he s ρ σ e rr f σ' hd' Q E kk
  refine (let Inv : Nat → Shared → Prop := fun j s' => ∃ h' tk ρ' σ₁, s' = { s with heap := h', toks := tk } ∧ Rel prog w h₀ A.frames env ρ' σ₁ h' ∧ Step (Fa env) ρ ρ' s.heap h' ∧ dWhile dt db de j σ₁ = some (f, σ'); wpAny_While (codeAny_whileLoop Inv ?_ n
    ⟨s.heap, s.toks, ρ, σ, rfl, rr, .refl .., hd'⟩))
  intro j s' hz1
  try clear Gol
  refine (let Gol : Prop := _; (?_ : Gol))
  obtain ⟨h', tk, ρ', σ₁, hz2, hz3⟩ := hz1
  unfold Gol; clear Gol
  subst hz2
  refine (let Gol : Prop := _; (?_ : Gol))
  obtain ⟨r', st', hj⟩ := hz3
  cases j with
  | zero => exact (fail_some (σ := σ₁) hj).elim
  | succ j =>
    refine  bind_k hj fun b σ₂ e1 e2 => ?_
    refine ht A env ρ₀ ha he _ ρ' σ₁ (e.trans st'.ext) r' b σ₂ e1 _ _ fun c h₁ tk₁ ρ₁ R₁ r₁ st₁ => ?_
    try clear Gol
    refine (let Gol : Prop := _; (?_ : Gol))
    have R₁' : c = b := R₁
    subst R₁'
    have st₁' := r₁.trans st' st₁
    cases c with
    | false => exact he' A env ρ₀ ha he _ ρ₁ σ₂ (e.trans st₁'.ext) r₁ f σ' e2 _ _ fun c₂ h₂ tk₂ ρ₂ R₂ r₂ st₂ => kk c₂ h₂ tk₂ ρ₂ R₂ r₂ (r₂.trans st₁' st₂)
    | true =>
      refine  bind_k e2 fun g σ₃ e3 e4 => ?_
      refine hb A env ρ₀ ha he _ ρ₁ σ₂ (e.trans st₁'.ext) r₁ g σ₃ e3 _ _ fun c₂ h₂ tk₂ ρ₂ R₂ r₂ st₂ => ?_
      try clear Gol
      refine (let Gol : Prop := _; (?_ : Gol))
      have st₂' := r₂.trans st₁' st₂
      cases g with
      | next => cases R₂; exact ⟨j, Nat.lt_succ_self _, h₂, tk₂, ρ₂, σ₃, rfl, r₂, st₂', e4⟩
      | cont => cases R₂; exact ⟨j, Nat.lt_succ_self _, h₂, tk₂, ρ₂, σ₃, rfl, r₂, st₂', e4⟩
      | brk => cases R₂; obtain ⟨rfl, rfl⟩ := pure_some e4; exact kk _ h₂ tk₂ ρ₂ rfl r₂ st₂'
      | ret v => obtain ⟨c', rfl, R⟩ := R₂; obtain ⟨rfl, rfl⟩ := pure_some e4; exact kk _ h₂ tk₂ ρ₂ ⟨c', rfl, R⟩ r₂ st₂'

/-! for -/
noncomputable abbrev Nx := Nat → List AObj → Option (Option AVal)
noncomputable def dLoop (nx : Nx) (bnd : AVal → M Unit) (db : M AFlow) : Nat → Nat → M AFlow
  | 0, _ => fail
  | n + 1, j => fun σ => match nx j σ.H with
    | none => none
    | some none => some (.next, σ)
    | some (some v) => ((do
      bnd v
      match ← db with
      | .brk => pure .next
      | .ret u => pure (.ret u)
      | _ => dLoop nx bnd db n (j + 1)) : M AFlow) σ
/-- a concrete iterator at I that yields what nx says -/
structure Iter (prog : Program) (w : World) (h₀ : Heap) (A : Around) (I : Addr) (nx : Nx) (P : Rho → Nat → Obj → Prop) : Prop where
  ext : ∀ ρ ρ' j o, Ext ρ ρ' → P ρ j o → P ρ' j o
  nodict : ∀ ρ j o, P ρ j o → ∀ es ep, o.data ≠ .dict es ep
  item : ∀ (s : Shared) (ρ : Rho) (H : List AObj) (j : Nat) (o : Obj) (v : AVal) (Q : Option Value → Shared → Prop) (E : Value → Shared → Prop), RelH prog w h₀ ρ H s.heap → s.heap.get? I = some o → P ρ j o → nx j H = some (some v) →
    (∀ c h' tk o', VR ρ v c → h'.get? I = some o' → P ρ (j + 1) o' → Heap.ExtBut I s.heap h' → Q (some c) { s with heap := h', toks := tk }) → wpAny (model prog w) A (pyNext (.ref I)) Q E s
  done : ∀ (s : Shared) (ρ : Rho) (H : List AObj) (j : Nat) (o : Obj) (Q : Option Value → Shared → Prop) (E : Value → Shared → Prop), RelH prog w h₀ ρ H s.heap → s.heap.get? I = some o → P ρ j o → nx j H = some none →
    (∀ h' tk, Heap.ExtBut I s.heap h' → Q none { s with heap := h', toks := tk }) → wpAny (model prog w) A (pyNext (.ref I)) Q E s
  self : ∀ (s : Shared) (ρ : Rho) (j : Nat) (o : Obj) (Q : Value → Shared → Prop) (E : Value → Shared → Prop), s.heap.get? I = some o → P ρ j o → Q (.ref I) s → wpAny (model prog w) A (pyIter (.ref I)) Q E s

theorem for_loop {A : Around} {env : Env} {ρ₀ : Rho} {target : Expr} {body : List Stmt} {I : Addr} {nx : Nx} {P : Rho → Nat → Obj → Prop} {bnd : AVal → M Unit} {db : M AFlow} (n : Nat)
    (ha : AOk hd k A) (he : EOk sc env) (it : Iter prog w h₀ A I nx P)
    (hbnd : ∀ ρ v c, VR ρ v c → Sim prog w h₀ A env ρ (assign target env c) (fun _ _ _ => True) (bnd v)) (hb : SimB prog w h₀ hd k sc body db)
    (ht : ∀ it v, letOwnedTupleGo target it v = pure ())
    {s : Shared} {ρ : Rho} {σ σ' : St} {f : AFlow} {o : Obj} (r : Rel prog w h₀ A.frames env ρ σ s.heap) (hI : s.heap.get? I = some o) (hP : P ρ 0 o) (hIρ : I ∉ ρ) (hIf : ¬ Fa env I) (hI0 : h₀.get? I = none) (hIn : NoFr A.frames I)
    (hd' : dLoop nx bnd db n 0 σ = some (f, σ')) {R : Result → Shared → Prop}
    (kk : ∀ c h' tk ρ', FR ρ' f c → Rel prog w h₀ A.frames env ρ' σ' h' → Step (fun a => Fa env a ∨ a = I) ρ ρ' s.heap h' → R (.ok c) { s with heap := h', toks := tk }) :
    codeAny (model prog w) A (.forLoop target (.ref I) body [] env) R s := by
  refine (let Inv : Nat → Shared → Prop := fun m s' => ∃ h' tk ρ' σ₁ j o', s' = { s with heap := h', toks := tk } ∧ Rel prog w h₀ A.frames env ρ' σ₁ h' ∧ Step (fun a => Fa env a ∨ a = I) ρ ρ' s.heap h' ∧ dLoop nx bnd db m j σ₁ = some (f, σ') ∧ h'.get? I = some o' ∧ P ρ' j o' ∧ I ∉ ρ'; codeAny_forLoop Inv ?_ n
    ⟨s.heap, s.toks, ρ, σ, 0, o, rfl, r, .refl .., hd', hI, hP, hIρ⟩ (ht _))
  intro m s' hz4
  try clear Gol
  refine (let Gol : Prop := _; (?_ : Gol))
  obtain ⟨h', tk, ρ', σ₁, j, o', hz5, hz6⟩ := hz4
  unfold Gol; clear Gol
  subst hz5
  refine (let Gol : Prop := _; (?_ : Gol))
  obtain ⟨r', st', hj, hI', hP', hIρ'⟩ := hz6
  cases m with
  | zero => exact (fail_some (σ := σ₁) hj).elim
  | succ m =>
    have up : ∀ h₁ : Heap, Heap.ExtBut I h' h₁ → Rel prog w h₀ A.frames env ρ' σ₁ h₁ := fun h₁ hs =>
      ⟨⟨fun b o e => hs b o (fun q => by rw [q, hI0] at e; cases e) (r'.hp.keep b o e), r'.hp.len, r'.hp.nd, fun i o a e1 e2 => (r'.hp.objs i o a e1 e2).at fun o e => hs a o (fun q => hIρ' (q ▸ List.mem_iff_getElem?.mpr ⟨i, e2⟩)) e, r'.hp.own, r'.hp.mods, r'.hp.big⟩,
        r'.fr.keeps (.refl _) (fun a ha => (r'.fr.out a ha).1) fun b o hb e => ⟨o, hs b o (fun q => hIf (q ▸ hb)) e, .refl _⟩, r'.fo.butN hs hIn, r'.tp⟩
    have stI : ∀ h₁ : Heap, Heap.ExtBut I h' h₁ → Step (fun a => Fa env a ∨ a = I) ρ ρ' s.heap h₁ := fun h₁ hs =>
      st'.trans ⟨.refl _, fun b o e hb hq => ⟨o, hs b o (fun q => hq (.inr q)) e, .refl _⟩, fun a h1 h2 => absurd h1 h2⟩ fun a hq => hq.elim (fun hq => (r'.fr.out a hq).1) fun hq => hq ▸ hIρ'
    unfold dLoop at hj
    cases hn : nx j σ₁.H with
    | none => rw [hn] at hj; cases hj
    | some q =>
      rw [hn] at hj
      cases q with
      | none =>
        cases hj
        refine it.done _ ρ' _ j o' _ _ r'.hp hI' hP' hn fun h₁ tk₁ hs => wpAny_execs_nil ?_
        try clear Gol
        exact kk .next h₁ tk₁ ρ' rfl (up h₁ hs) (stI h₁ hs)
      | some v =>
        refine  bind_k hj fun _ σ₂ e1 e2 => ?_
        refine  bind_k e2 fun g σ₃ e3 e4 => ?_
        refine it.item _ ρ' σ₁.H j o' v _ _ r'.hp hI' hP' hn fun c h₁ tk₁ o₁ hv hI₁ hP₁ hs => ?_
        try clear Gol
        refine hbnd ρ' v c hv _ ρ' σ₁ (.refl _) (up h₁ hs) () σ₂ e1 _ _ fun _ h₂ tk₂ ρ₂ _ r₂ st₂ => ?_
        try clear Gol
        have a2 := stI h₁ hs
        have n2 : I ∉ ρ₂ := fun q => by have := st₂.fresh I q hIρ'; rw [hI₁] at this; cases this
        have a3 := a2.trans (st₂.weak fun a q => .inl q) fun a q => q.elim (fun q => (r₂.fr.out a q).1) fun q => q ▸ n2
        have I2 := st₂.exact hI₁ hIρ' hIf (it.nodict _ _ _ hP₁)
        refine hb A env ρ₂ ha he _ ρ₂ σ₂ (.refl _) r₂ g σ₃ e3 _ _ fun c₂ h₃ tk₃ ρ₃ R₃ r₃ st₃ => ?_
        try clear Gol
        refine (let Gol : Prop := _; (?_ : Gol))
        have n3 : I ∉ ρ₃ := fun q => by have := st₃.fresh I q n2; rw [I2] at this; cases this
        have a4 := a3.trans (st₃.weak fun a q => .inl q) fun a q => q.elim (fun q => (r₃.fr.out a q).1) fun q => q ▸ n3
        have I3 := st₃.exact I2 n2 hIf (it.nodict _ _ _ hP₁)
        have P3 := it.ext _ _ _ _ (st₂.ext.trans st₃.ext) hP₁
        cases g with
        | next => cases R₃; exact ⟨m, Nat.lt_succ_self _, h₃, tk₃, ρ₃, σ₃, j + 1, o₁, rfl, r₃, a4, e4, I3, P3, n3⟩
        | cont => cases R₃; exact ⟨m, Nat.lt_succ_self _, h₃, tk₃, ρ₃, σ₃, j + 1, o₁, rfl, r₃, a4, e4, I3, P3, n3⟩
        | brk => cases R₃; obtain ⟨rfl, rfl⟩ := pure_some e4; exact kk _ h₃ tk₃ ρ₃ rfl r₃ a4
        | ret u => obtain ⟨c', rfl, R⟩ := R₃; obtain ⟨rfl, rfl⟩ := pure_some e4; exact kk _ h₃ tk₃ ρ₃ ⟨c', rfl, R⟩ r₃ a4
end
end Mine
end

section
open PySem PySem.W PyProof.Rows
set_option autoImplicit false
set_option linter.unusedVariables false
namespace Mine

noncomputable def loB : List (Str × AVal) → Lo → Lo
  | [], lo => lo
  | (n, v) :: r, lo => loB r (put lo n v)

noncomputable def BindSim (prog : Program) (w : World) (h₀ : Heap) (fd : FuncData) (vs : List AVal) (bd : List AObj → Option (List (Str × AVal) × List AObj)) : Prop :=
  ∀ (A : Around) (s : Shared) (ρ : Rho) (H : List AObj) (cs : List Value), RelH prog w h₀ ρ H s.heap → VRs ρ vs cs → ∀ l H', bd H = some (l, H') →
    ∀ (Q : List (Str × Value) → Shared → Prop) (E : Value → Shared → Prop), (∀ cl h' tk ρ', VPs ρ' l cl → RelH prog w h₀ ρ' H' h' → Step (fun _ => False) ρ ρ' s.heap h' → Q cl { s with heap := h', toks := tk }) →
    wpAny (model prog w) A (bindArgs fd ⟨cs, []⟩) Q E s

noncomputable def retOf : AFlow → Option AVal
  | .ret v => some v
  | .next => some .none
  | _ => none
noncomputable def runF (bd : List AObj → Option (List (Str × AVal) × List AObj)) (db : M AFlow) (H : List AObj) : Option (AVal × List AObj) :=
  (bd H).bind fun p => (db ⟨loB p.1 fun _ => none, p.2⟩).bind fun q => (retOf q.1).map fun v => (v, q.2.H)

section
variable {prog : Program} {w : World} {h₀ : Heap} {hd : Bool} {k : Nat} {sc : Scope} {K : Frag}

theorem bind_inv {ρ : Rho} {kd : Str → Option NameKind} : ∀ {l : List (Str × AVal)} {cl : List (Str × Value)}, VPs ρ l cl → ∀ {lo : Lo} {m cm : Str → Option Value},
    (∀ x v, lo x = some v → (kd x = some .local → ∃ c, m x = some c ∧ VR ρ v c) ∧ (kd x ≠ some .local → ∃ c, cm x = some c ∧ VR ρ v c)) →
    ∀ x v, loB l lo x = some v → (kd x = some .local → ∃ c, bindL kd cl m x = some c ∧ VR ρ v c) ∧ (kd x ≠ some .local → ∃ c, bindC kd cl cm x = some c ∧ VR ρ v c) := by
  intro l cl h
  induction h with
  | nil => intro lo m cm h; exact h
  | @cons n v c vs cs hv _ ih =>
    intro lo m cm h
    refine ih fun x u hx => ?_
    try clear Gol
    unfold put at hx
    try (unfold Gol; clear Gol)
    by_cases hn : kd n = some .local
    · simp only [if_pos hn]
      try (unfold Gol; clear Gol)
      by_cases e : x = n
      · subst e
        simp only [if_true, Option.some.injEq] at hx
        subst hx
        exact ⟨fun _ => ⟨c, by simp, hv⟩, fun q => absurd hn q⟩
      · rw [if_neg e] at hx
        refine ⟨fun q => ?_, (h x u hx).2⟩
        try (unfold Gol; clear Gol)
        simp only [if_neg e]
        exact (h x u hx).1 q
    · simp only [if_neg hn]
      try (unfold Gol; clear Gol)
      by_cases e : x = n
      · subst e
        simp only [if_true, Option.some.injEq] at hx
        subst hx
        exact ⟨fun q => absurd q hn, fun _ => ⟨c, by simp, hv⟩⟩
      · rw [if_neg e] at hx
        refine ⟨(h x u hx).1, fun q => ?_⟩
        try (unfold Gol; clear Gol)
        simp only [if_neg e]
        exact (h x u hx).2 q

theorem fn_def (G : Gnd K h₀) {f : Addr} {oc : Value} {od : Option Addr} {osl : Array (Option Value)} {fd : FuncData} {body : List Stmt} {vs : List AVal} {bd : List AObj → Option (List (Str × AVal) × List AObj)} {db : M AFlow}
    (ho : K.lookup f = some ⟨oc, od, .func fd, osl⟩) (hcd : codeIn K fd.code fd.qualname = true) (hbody : fd.body = .stmts body) (hclo : fd.closure = []) (hgl : fd.globals = mainGlobals) (hbl : fd.builtins = builtinsNs)
    (hk : fd.scope.kind = .function) (hco : fd.scope.isCoroutine = false) (hgen : fd.scope.isGenerator = false)
    (hb : BindSim prog w h₀ fd vs bd) (hkind : ∀ H l H', bd H = some (l, H') → ∀ x ∈ l, fd.scope.names.lookup x.1 = some .local ∨ fd.scope.names.lookup x.1 = some .cell)
    (hB : SimB prog w h₀ true k fd.scope body db) : SimF prog w h₀ (k + 1) (.ref f) vs (runF bd db) := by
  intro A s ρ H cs ha r hfo hvs v H' hd' R kk
  refine (let Gol : Prop := _; (?_ : Gol))
  unfold runF at hd'
  obtain ⟨p, e1, hd'⟩ := Option.bind_eq_some_iff.mp hd'
  obtain ⟨q, e2, hd'⟩ := Option.bind_eq_some_iff.mp hd'
  obtain ⟨v', e3, hd'⟩ := Option.map_eq_some_iff.mp hd'
  cases hd'
  obtain ⟨l, H₁⟩ := p
  obtain ⟨fl, σ₂⟩ := q
  refine codeAny_call_function ha.room (r.keep _ _ (G.X _ _ ho)) rfl hco hgen hbody (codeRec_of (fun b o e => r.keep _ _ (G.X b o e)) hcd) ?_
  try clear Gol
  refine hb A.in1 s ρ H cs r hvs l H₁ e1 _ _ fun cl h₁ tk₁ ρ₁ hcl r₁ st₁ => ?_
  try clear Gol
  refine (let Gol : Prop := _; (?_ : Gol))
  try (unfold Gol; clear Gol)
  rw [hclo]
  have hkd : ∀ x ∈ cl, fd.scope.names.lookup x.1 = some .local ∨ (fd.scope.names.lookup x.1 = some .cell ∧ ((cellsFrom (h₁.objs.size + 1) fd.scope.names []).lookup x.1).isSome = true) := fun x hx => by
    have hm : x.1 ∈ l.map (·.1) := by rw [← hcl.keys]; exact List.mem_map_of_mem hx
    obtain ⟨y, hy, hxy⟩ := List.mem_map.mp hm
    rcases hkind H l H₁ e1 y hy with h | h
    · exact .inl (hxy ▸ h)
    · exact .inr ⟨hxy ▸ h, cellsFrom_some _ _ _ (.inl (hxy ▸ h))⟩
  refine wpAny_newFunctionEnv_cells hk hkd fun env he s₂ x => ?_
  try clear Gol
  refine (let Gol : Prop := _; (?_ : Gol))
  subst he
  obtain ⟨h₂, tk₂, rfl, hk₂⟩ := x.done
  have r₂ : RelH prog w h₀ ρ₁ H₁ h₂ := r₁.keeps hk₂
  refine ⟨G.lim.keeps r₂.keep, codeAny_func ?_⟩
  have hfresh : ∀ a, h₁.objs.size ≤ a → a ∉ ρ₁ ∧ h₀.get? a = none := fun a hge => by
    refine ⟨fun hm => ?_, ?_⟩
    · obtain ⟨o, e⟩ := r₁.alive hm
      exact absurd (Heap.lt_size e) (Nat.not_lt.mpr hge)
    · cases q : h₀.get? a with
      | none => rfl
      | some o => exact absurd (Heap.lt_size (r₁.keep a o q)) (Nat.not_lt.mpr hge)
  have hL : ∀ a, Fa (newEnv fd.scope h₁.objs.size fd.globals (cellsFrom (h₁.objs.size + 1) fd.scope.names []) (fd.qualname ++ ".<locals>.") (some f) fd.code none fd.builtins) a → h₁.objs.size ≤ a := by
    rintro a (rfl | ⟨y, hy⟩)
    · exact Nat.le_refl _
    · exact Nat.le_of_lt (x.above y a (mem_of_lookup hy))
  have rel : Rel prog w h₀ (A.deeper (newEnv fd.scope h₁.objs.size fd.globals (cellsFrom (h₁.objs.size + 1) fd.scope.names []) (fd.qualname ++ ".<locals>.") (some f) fd.code none fd.builtins)).frames (newEnv fd.scope h₁.objs.size fd.globals (cellsFrom (h₁.objs.size + 1) fd.scope.names []) (fd.qualname ++ ".<locals>.") (some f) fd.code none fd.builtins) ρ₁ ⟨loB l fun _ => none, H₁⟩ h₂ := by
    have inv := bind_inv (kd := fun y => fd.scope.names.lookup y) hcl (lo := fun _ => none) (m := fun _ => none) (cm := fun _ => none) (fun _ _ e => by cases e)
    refine ⟨r₂, ⟨⟨_, x.toInCall.ns, fun y u h1 h2 => (inv y u h2).1 h1⟩, fun y u h1 h2 => ?_, fun y a hy => ?_, fun a ha => hfresh a (hL a ha), fun y a hy => ?_, fun y z a hy hz => ?_⟩, ?_, ?_⟩
    rotate_left 4
    rotate_left 1
    · obtain ⟨lf, e8, f8⟩ := hfo
      exact ⟨_, lf, h₁.objs.size, Around.frames_deeper e8, rfl, rfl⟩
    rotate_right 1
    · obtain ⟨lf, e8, f8⟩ := (hfo.step st₁).same hk₂
      refine ⟨_ :: lf, Around.frames_deeper e8, fun e he => ?_⟩
      rcases List.mem_cons.mp he with rfl | he
      · obtain ⟨o, es, ep, e9, e10, _⟩ := x.toInCall.ns
        exact ⟨by show fd.scope.kind ≠ _; rw [hk]; decide, h₁.objs.size, o, es, ep, rfl, (hfresh _ (Nat.le_refl _)).1, (hfresh _ (Nat.le_refl _)).2, e9, e10⟩
      · exact f8 e he
    · have hnl : fd.scope.names.lookup y ≠ some .local := fun q => by
        rcases h1 with h1 | h1
        · have h1' : fd.scope.names.lookup y = some .cell := h1
          rw [q] at h1'; cases h1'
        · have h1' : fd.scope.names.lookup y = some .free := h1
          rw [q] at h1'; cases h1'
      obtain ⟨c, e4, e5⟩ := (inv y u h2).2 hnl
      have hin : ∃ z ∈ l, z.1 = y := by
        have key : ∀ (l : List (Str × AVal)) (lo : Lo), loB l lo y = some u → lo y = some u ∨ ∃ z ∈ l, z.1 = y := by
          intro l
          try (unfold Gol; clear Gol)
          induction l with
          | nil => intro lo h; exact .inl h
          | cons p t ih =>
            intro lo h
            rcases ih _ h with h | ⟨z, hz, e⟩
            · unfold put at h
              try (unfold Gol; clear Gol)
              by_cases e : y = p.1
              · exact .inr ⟨p, List.mem_cons_self, e.symm⟩
              · rw [if_neg e] at h; exact .inl h
            · exact .inr ⟨z, List.mem_cons_of_mem _ hz, e⟩
        rcases key l _ h2 with h | h
        · cases h
        · exact h
      obtain ⟨z, hz, rfl⟩ := hin
      have hcl : fd.scope.names.lookup z.1 = some .cell := (hkind H l H₁ e1 z hz).resolve_left hnl
      obtain ⟨a, hax⟩ := Option.isSome_iff_exists.mp (cellsFrom_some fd.scope.names (h₁.objs.size + 1) [] (.inl hcl))
      obtain ⟨o, e6, e7⟩ := x.cell z.1 a hax
      exact ⟨a, c, o, hax, e6, e7.trans (congrArg Data.cell e4), e5⟩
    · obtain ⟨o, e6, e7⟩ := x.cell y a hy
      exact ⟨o, _, e6, e7⟩
    · exact Nat.ne_of_gt (x.above y a (mem_of_lookup hy))
    · exact name_of_addr x.apart (mem_of_lookup hy) (mem_of_lookup hz)
  have eok : EOk fd.scope (newEnv fd.scope h₁.objs.size fd.globals (cellsFrom (h₁.objs.size + 1) fd.scope.names []) (fd.qualname ++ ".<locals>.") (some f) fd.code none fd.builtins) :=
    ⟨rfl, hgl, hbl, hk, fun y hy => cellsFrom_some _ _ _ (.inl hy)⟩
  refine hB _ _ ρ₁ (ha.deeper _) eok _ ρ₁ _ (.refl _) rel fl σ₂ e2 _ _ fun c h₃ tk₃ ρ₃ R₃ r₃ st₃ => ?_
  try clear Gol
  refine (let Gol : Prop := _; (?_ : Gol))
  have step : Step (fun _ => False) ρ ρ₃ s.heap h₃ := by
    have a1 : Step (fun a => h₁.objs.size ≤ a) ρ₁ ρ₃ h₂ h₃ := st₃.weak hL
    have a2 : Step (fun _ => False) ρ₁ ρ₃ h₁ h₃ := ⟨a1.ext, fun b o e hb _ => a1.keep b o (hk₂ b o e) hb (Nat.not_le.mpr (Heap.lt_size e)), fun a hm hn => by
      have := a1.fresh a hm hn
      cases q : h₁.get? a with
      | none => rfl
      | some o => rw [hk₂ a o q] at this; cases this⟩
    exact st₁.trans a2 fun _ q => q.elim
  cases fl with
  | next => cases R₃; cases e3; exact kk .none h₃ tk₃ ρ₃ rfl r₃.hp step
  | brk => cases e3
  | cont => cases e3
  | ret u => cases e3; obtain ⟨c', rfl, R⟩ := R₃; exact kk c' h₃ tk₃ ρ₃ R r₃.hp step
end
end Mine
end

section
open PySem PySem.W PyProof.Rows
set_option autoImplicit false
set_option linter.unusedVariables false
namespace Mine

noncomputable def asList (v : AVal) : M (Nat × List AVal) := match v with
  | .ref i => do
    match ← getO i with
    | .list vs => pure (i, vs)
    | _ => fail
  | _ => fail
noncomputable def asTuple (v : AVal) : M (Nat × List AVal) := match v with
  | .ref i => do
    match ← getO i with
    | .tuple vs => pure (i, vs)
    | _ => fail
  | _ => fail
noncomputable def asDict (v : AVal) : M (Nat × Nat × List (Int × AVal)) := match v with
  | .ref i => do
    match ← getO i with
    | .dict ep vs => pure (i, ep, vs)
    | _ => fail
  | _ => fail
noncomputable def asSet (v : AVal) : M (Nat × List Int) := match v with
  | .ref i => do
    match ← getO i with
    | .set vs => pure (i, vs)
    | _ => fail
  | _ => fail
theorem asList_some {v : AVal} {σ σ' : St} {i : Nat} {vs : List AVal} (h : asList v σ = some ((i, vs), σ')) : v = .ref i ∧ σ.H[i]? = some (.list vs) ∧ σ' = σ := by
  cases v with
  | ref j =>
    refine  bind_k h fun o σ₁ e1 e2 => ?_
    obtain ⟨e3, rfl⟩ := getO_some e1
    cases o with
    | list us => obtain ⟨e4, rfl⟩ := pure_some e2; cases e4; exact ⟨rfl, e3, rfl⟩
    | _ => exact (fail_some (σ := σ₁) e2).elim
  | _ => exact (fail_some (σ := σ) h).elim
theorem asDict_some {v : AVal} {σ σ' : St} {i ep : Nat} {vs : List (Int × AVal)} (h : asDict v σ = some ((i, ep, vs), σ')) : v = .ref i ∧ σ.H[i]? = some (.dict ep vs) ∧ σ' = σ := by
  cases v with
  | ref j =>
    refine  bind_k h fun o σ₁ e1 e2 => ?_
    obtain ⟨e3, rfl⟩ := getO_some e1
    cases o with
    | dict ep us => obtain ⟨e4, rfl⟩ := pure_some e2; cases e4; exact ⟨rfl, e3, rfl⟩
    | _ => exact (fail_some (σ := σ₁) e2).elim
  | _ => exact (fail_some (σ := σ) h).elim
section
variable {prog : Program} {w : World} {h₀ : Heap} {hd : Bool} {k : Nat} {sc : Scope} {K : Frag}

/-- a list's concrete self -/
theorem listAt {ρ : Rho} {H : List AObj} {h : Heap} (r : RelH prog w h₀ ρ H h) {i : Nat} {vs : List AVal} (e : H[i]? = some (.list vs)) :
    ∃ a its n, ρ[i]? = some a ∧ IsL h a its n ∧ VRs ρ vs its.toList ∧ its.size = vs.length := by
  obtain ⟨a, e1, its, ⟨n, e2⟩, e3⟩ := getK r e
  exact ⟨a, its, n, e1, e2, e3, by rw [← e3.length]; simp⟩
theorem listAt_k {ρ : Rho} {H : List AObj} {h : Heap} {G : Prop} (r : RelH prog w h₀ ρ H h) {i : Nat} {vs : List AVal} (e : H[i]? = some (.list vs)) (k : ∀ a its n, ρ[i]? = some a → IsL h a its n → VRs ρ vs its.toList → its.size = vs.length → G) : G := by
  obtain ⟨a, its, n, e1, e2, e3, e4⟩ := listAt r e
  exact k a its n e1 e2 e3 e4
theorem dictAt {ρ : Rho} {H : List AObj} {h : Heap} (r : RelH prog w h₀ ρ H h) {i ep : Nat} {vs : List (Int × AVal)} (e : H[i]? = some (.dict ep vs)) :
    ∃ a cvs, ρ[i]? = some a ∧ h.DictAt (intKind prog w) a cvs ep ∧ VPs ρ vs cvs := by
  obtain ⟨a, e1, cvs, e2, e3⟩ := getK r e
  exact ⟨a, cvs, e1, e2, e3⟩
theorem dictAt_k {ρ : Rho} {H : List AObj} {h : Heap} {G : Prop} (r : RelH prog w h₀ ρ H h) {i ep : Nat} {vs : List (Int × AVal)} (e : H[i]? = some (.dict ep vs)) (k : ∀ a cvs, ρ[i]? = some a → h.DictAt (intKind prog w) a cvs ep → VPs ρ vs cvs → G) : G := by
  obtain ⟨a, cvs, e1, e2, e3⟩ := dictAt r e
  exact k a cvs e1 e2 e3
theorem VR.eq_ref {ρ : Rho} {i : Nat} {c : Value} {a : Addr} (h : VR ρ (.ref i) c) (x : ρ[i]? = some a) : c = .ref a := h.refAt x

/-! arguments -/
noncomputable def SimA (prog : Program) (w : World) (h₀ : Heap) (hd : Bool) (k : Nat) (sc : Scope) (es : List Expr) (d : M (List AVal)) : Prop :=
  ∀ A env ρ₀ pos, AOk hd k A → EOk sc env → Sim prog w h₀ A env ρ₀ (spliced (backTo pos (starEach es env))) VRs d
theorem a_nil : SimA prog w h₀ hd k sc [] (pure []) := fun A env ρ₀ pos ha he => Sim.leaf fun s ρ σ _ r Q E kk => args_nil (kk [] s.toks .nil)
theorem a_cons {e : Expr} {rest : List Expr} {d : M AVal} {d' : M (List AVal)} (h : SimE prog w h₀ hd k sc e d) (h' : SimA prog w h₀ hd k sc rest d')
    (hse : ∀ env, starEach (e :: rest) env = (false, eval e env) :: starEach rest env := by intro _; rfl) : SimA prog w h₀ hd k sc (e :: rest) (do let v ← d; let vs ← d'; pure (v :: vs)) := by
  intro A env ρ₀ pos ha he s ρ σ e₀ rr v σ' hd' Q E kk
  refine  bind_k hd' fun a σ₁ e1 hd' => ?_
  refine  bind_k hd' fun as σ₂ e2 e3 => ?_
  obtain ⟨rfl, rfl⟩ := pure_some e3
  refine args_cons (h A env ρ₀ ha he s ρ σ e₀ rr a σ₁ e1 _ _ fun c h₁ tk₁ ρ₁ R₁ r₁ st₁ => ?_) (hse env)
  exact h' A env ρ₀ pos ha he _ ρ₁ σ₁ (e₀.trans st₁.ext) r₁ as σ' e2 _ _ fun cs h₂ tk₂ ρ₂ R₂ r₂ st₂ => kk (c :: cs) h₂ tk₂ ρ₂ (.cons (R₁.ext st₂.ext) R₂) r₂ (r₂.trans st₁ st₂)
/-- the arguments as a call takes them -/
noncomputable def SimG (prog : Program) (w : World) (h₀ : Heap) (hd : Bool) (k : Nat) (sc : Scope) (es : List Expr) (d : M (List AVal)) : Prop :=
  ∀ A env ρ₀ pos f, AOk hd k A → EOk sc env → Sim prog w h₀ A env ρ₀ (evalArgs f true (backTo pos (starEach es env)) []) (fun ρ vs (a : Args) => ∃ cs, a = ⟨cs, []⟩ ∧ VRs ρ vs cs) d
theorem g_nil : SimG prog w h₀ hd k sc [] (pure []) := fun A env ρ₀ pos f ha he => Sim.leaf fun s ρ σ _ r Q E kk => PyProof.Rows.evalArgs_none (kk _ s.toks ⟨[], rfl, .nil⟩)
theorem g_plain {e : Expr} {rest : List Expr} {d : M (List AVal)} (h : SimA prog w h₀ hd k sc (e :: rest) d)
    (hse : ∀ env, starEach (e :: rest) env = (false, eval e env) :: starEach rest env := by intro _; rfl) : SimG prog w h₀ hd k sc (e :: rest) d := by
  intro A env ρ₀ pos f ha he s ρ σ e₀ rr v σ' hd' Q E kk
  have hh := h A env ρ₀ pos ha he s ρ σ e₀ rr v σ' hd' (fun vs s' => Q ⟨vs, []⟩ s') E fun cs h₁ tk₁ ρ₁ R₁ r₁ st₁ => kk _ h₁ tk₁ ρ₁ ⟨cs, rfl, R₁⟩ r₁ st₁
  rw [hse env] at hh ⊢
  exact Calls.evalArgs_plain hh

/-! calls of own defs -/
theorem Rel.called {A : Around} {env : Env} {ρ ρ' : Rho} {σ : St} {h h' : Heap} {H' : List AObj} (r : Rel prog w h₀ A.frames env ρ σ h) (r' : RelH prog w h₀ ρ' H' h') (st : Step (fun _ => False) ρ ρ' h h') :
    Rel prog w h₀ A.frames env ρ' ⟨σ.lo, H'⟩ h' ∧ Step (Fa env) ρ ρ' h h' := ⟨r.heap st r', st.weak fun _ q => q.elim⟩
theorem call_fn (G : Gnd K h₀) {func : Expr} {es : List Expr} {pos : Pos} {f : Addr} {oc : Value} {od : Option Addr} {osl : Array (Option Value)} {fd : FuncData} {dargs : M (List AVal)} {D : List AVal → List AObj → Option (AVal × List AObj)}
    (ho : K.lookup f = some ⟨oc, od, .func fd, osl⟩) (hf : SimE prog w h₀ true k sc func (pure (.stat (.ref f)))) (hg : SimG prog w h₀ true k sc es dargs) (hF : ∀ vs, SimF prog w h₀ k (.ref f) vs (D vs))
    (hc : ∀ env, eval (.Call func es [] pos) env = (do callWith pos (← eval func env) [] (backTo pos (starEach es env)) (backToKw pos (keywordEach [] env))) := by intro _; rfl) :
    SimE prog w h₀ true k sc (.Call func es [] pos) (do let vs ← dargs; onH (D vs)) := by
  intro A env ρ₀ ha he s ρ σ e₀ rr v σ' hd' Q E kk
  refine (let Gol : Prop := _; (?_ : Gol))
  refine  bind_k hd' fun vs σ₁ e1 e2 => ?_
  obtain ⟨H', e3, rfl⟩ := onH_some e2
  refine Call_ (hf A env ρ₀ ha he s ρ σ e₀ rr _ σ rfl _ _ fun c h₁ tk₁ ρ₁ R₁ r₁ st₁ => ?_) (hc env)
  have R₁' : c = .ref f := R₁
  subst R₁'
  refine Calls.callWith_function (o := ⟨oc, od, .func fd, osl⟩) (fd := fd) (hg A env ρ₀ pos (.ref f) ha he _ ρ₁ σ (e₀.trans st₁.ext) r₁ vs σ₁ e1 _ _ fun a h₂ tk₂ ρ₂ R₂ r₂ st₂ => ?_)
  try clear Gol
  refine (let Gol : Prop := _; (?_ : Gol))
  obtain ⟨cs, rfl, hcs⟩ := R₂
  refine ⟨⟨r₂.hp.keep _ _ (G.X _ _ ho), rfl⟩, wpAny_call (hF vs A _ ρ₂ σ₁.H cs ha r₂.hp r₂.fo hcs v H' e3 _ fun c h₃ tk₃ ρ₃ hv r₃ st₃ => ?_)⟩
  obtain ⟨r₃', st₃'⟩ := r₂.called r₃ st₃
  exact kk c h₃ tk₃ ρ₃ hv r₃' (r₃'.trans (r₂.trans st₁ st₂) st₃')
/-- a def's value in a name -/
theorem call_val (G : Gnd K h₀) {func : Expr} {es : List Expr} {pos : Pos} {f : Addr} {oc : Value} {od : Option Addr} {osl : Array (Option Value)} {fd : FuncData} {df : M AVal} {dargs : M (List AVal)} {D : List AVal → List AObj → Option (AVal × List AObj)}
    (ho : K.lookup f = some ⟨oc, od, .func fd, osl⟩) (hf : SimE prog w h₀ true k sc func df) (hg : SimG prog w h₀ true k sc es dargs) (hF : ∀ vs, SimF prog w h₀ k (.ref f) vs (D vs))
    (hc : ∀ env, eval (.Call func es [] pos) env = (do callWith pos (← eval func env) [] (backTo pos (starEach es env)) (backToKw pos (keywordEach [] env))) := by intro _; rfl) :
    SimE prog w h₀ true k sc (.Call func es [] pos) (do
      match ← df with
      | .stat (.ref g) => if g = f then (do let vs ← dargs; onH (D vs)) else fail
      | _ => fail) := by
  intro A env ρ₀ ha he s ρ σ e₀ rr v σ' hd' Q E kk
  refine  bind_k hd' fun fv σ₀ e0 hd' => ?_
  refine Call_ (hf A env ρ₀ ha he s ρ σ e₀ rr _ σ₀ e0 _ _ fun c h₁ tk₁ ρ₁ R₁ r₁ st₁ => ?_) (hc env)
  cases fv with
  | stat u =>
    cases u with
    | ref g =>
      try (unfold Gol; clear Gol)
      by_cases hgf : g = f
      · subst hgf
        simp only [if_true] at hd'
        refine  bind_k hd' fun vs σ₁ e1 e2 => ?_
        obtain ⟨H', e3, rfl⟩ := onH_some e2
        have R₁' : c = .ref g := R₁
        subst R₁'
        refine Calls.callWith_function (o := ⟨oc, od, .func fd, osl⟩) (fd := fd) (hg A env ρ₀ pos (.ref g) ha he _ ρ₁ σ₀ (e₀.trans st₁.ext) r₁ vs σ₁ e1 _ _ fun a h₂ tk₂ ρ₂ R₂ r₂ st₂ => ?_)
        try clear Gol
        refine (let Gol : Prop := _; (?_ : Gol))
        obtain ⟨cs, rfl, hcs⟩ := R₂
        refine ⟨⟨r₂.hp.keep _ _ (G.X _ _ ho), rfl⟩, wpAny_call (hF vs A _ ρ₂ σ₁.H cs ha r₂.hp r₂.fo hcs v H' e3 _ fun c h₃ tk₃ ρ₃ hv r₃ st₃ => ?_)⟩
        obtain ⟨r₃', st₃'⟩ := r₂.called r₃ st₃
        exact kk c h₃ tk₃ ρ₃ hv r₃' (r₃'.trans (r₂.trans st₁ st₂) st₃')
      · simp only [if_neg hgf] at hd'
        exact (fail_some (σ := σ₀) hd').elim
    | _ => exact (fail_some (σ := σ₀) hd').elim
  | _ => exact (fail_some (σ := σ₀) hd').elim

/-! built-in functions and classes -/
noncomputable def BiSim (prog : Program) (w : World) (h₀ : Heap) (hd : Bool) (k : Nat) (f : Value) (D : List AVal → M AVal) : Prop :=
  ∀ A env ρ₀ vs cs, AOk hd k A → VRs ρ₀ vs cs → Sim prog w h₀ A env ρ₀ (call f cs) VR (D vs)
theorem call_bi {func : Expr} {es : List Expr} {pos : Pos} {id : String} {dargs : M (List AVal)} {D : List AVal → M AVal}
    (hf : SimE prog w h₀ hd k sc func (pure (.stat (.builtin id)))) (hg : SimG prog w h₀ hd k sc es dargs) (hD : BiSim prog w h₀ hd k (.builtin id) D)
    (hp : ∀ env, (backTo pos (starEach es env)).any (·.1) = false := by intro _; rfl)
    (hc : ∀ env, eval (.Call func es [] pos) env = (do callWith pos (← eval func env) [] (backTo pos (starEach es env)) (backToKw pos (keywordEach [] env))) := by intro _; rfl) :
    SimE prog w h₀ hd k sc (.Call func es [] pos) (do let vs ← dargs; D vs) := by
  intro A env ρ₀ ha he s ρ σ e₀ rr v σ' hd' Q E kk
  refine  bind_k hd' fun vs σ₁ e1 e2 => ?_
  refine Call_ (hf A env ρ₀ ha he s ρ σ e₀ rr _ σ rfl _ _ fun c h₁ tk₁ ρ₁ R₁ r₁ st₁ => ?_) (hc env)
  have R₁' : c = .builtin id := R₁
  subst R₁'
  refine Calls.callWith_builtin (hp env) (hg A env ρ₀ pos (.builtin id) ha he _ ρ₁ σ (e₀.trans st₁.ext) r₁ vs σ₁ e1 _ _ fun a h₂ tk₂ ρ₂ R₂ r₂ st₂ => ?_)
  try clear Gol
  refine (let Gol : Prop := _; (?_ : Gol))
  obtain ⟨cs, rfl, hcs⟩ := R₂
  exact hD A env ρ₂ vs cs ha hcs _ ρ₂ σ₁ (.refl _) r₂ v σ' e2 _ _ fun c h₃ tk₃ ρ₃ hv r₃ st₃ => kk c h₃ tk₃ ρ₃ hv r₃ (r₃.trans (r₂.trans st₁ st₂) st₃)
theorem call_ty {func : Expr} {es : List Expr} {pos : Pos} {T : String} {dargs : M (List AVal)} {D : List AVal → M AVal}
    (hf : SimE prog w h₀ hd k sc func (pure (.stat (.type T)))) (hg : SimG prog w h₀ hd k sc es dargs) (hD : BiSim prog w h₀ hd k (.type T) D)
    (hp : ∀ env, (backTo pos (starEach es env)).any (·.1) = false := by intro _; rfl)
    (hc : ∀ env, eval (.Call func es [] pos) env = (do callWith pos (← eval func env) [] (backTo pos (starEach es env)) (backToKw pos (keywordEach [] env))) := by intro _; rfl) :
    SimE prog w h₀ hd k sc (.Call func es [] pos) (do let vs ← dargs; D vs) := by
  intro A env ρ₀ ha he s ρ σ e₀ rr v σ' hd' Q E kk
  refine  bind_k hd' fun vs σ₁ e1 e2 => ?_
  refine Call_ (hf A env ρ₀ ha he s ρ σ e₀ rr _ σ rfl _ _ fun c h₁ tk₁ ρ₁ R₁ r₁ st₁ => ?_) (hc env)
  have R₁' : c = .type T := R₁
  subst R₁'
  refine PySem.callWith_type (hp env) (hg A env ρ₀ pos (.type T) ha he _ ρ₁ σ (e₀.trans st₁.ext) r₁ vs σ₁ e1 _ _ fun a h₂ tk₂ ρ₂ R₂ r₂ st₂ => ?_)
  try clear Gol
  refine (let Gol : Prop := _; (?_ : Gol))
  obtain ⟨cs, rfl, hcs⟩ := R₂
  exact hD A env ρ₂ vs cs ha hcs _ ρ₂ σ₁ (.refl _) r₂ v σ' e2 _ _ fun c h₃ tk₃ ρ₃ hv r₃ st₃ => kk c h₃ tk₃ ρ₃ hv r₃ (r₃.trans (r₂.trans st₁ st₂) st₃)

theorem VRs.one {ρ : Rho} {v : AVal} {cs : List Value} (h : VRs ρ [v] cs) : ∃ c, cs = [c] ∧ VR ρ v c := by
  cases h with
  | cons a b => cases b; exact ⟨_, rfl, a⟩
theorem VRs.two {ρ : Rho} {v u : AVal} {cs : List Value} (h : VRs ρ [v, u] cs) : ∃ c d, cs = [c, d] ∧ VR ρ v c ∧ VR ρ u d := by
  cases h with
  | cons a b => obtain ⟨d, rfl, hd⟩ := b.one; exact ⟨_, d, rfl, a, hd⟩
theorem VRs.three {ρ : Rho} {v u t : AVal} {cs : List Value} (h : VRs ρ [v, u, t] cs) : ∃ c d e, cs = [c, d, e] ∧ VR ρ v c ∧ VR ρ u d ∧ VR ρ t e := by
  cases h with
  | cons a b => obtain ⟨d, e, rfl, hd, he⟩ := b.two; exact ⟨_, d, e, rfl, a, hd, he⟩

/-! what a run that ends says of its arguments -/
theorem args1 {R : Type} {F : List AVal → Option R} {vs : List AVal} {r : R} (h : F vs = some r) (h0 : F [] = none) (h2 : ∀ a b l, F (a :: b :: l) = none) : ∃ a, vs = [a] := by
  cases vs with
  | nil => rw [h0] at h; cases h
  | cons a l => cases l with
    | nil => exact ⟨a, rfl⟩
    | cons b l => rw [h2] at h; cases h
theorem args2 {R : Type} {F : List AVal → Option R} {vs : List AVal} {r : R} (h : F vs = some r) (h0 : F [] = none) (h1 : ∀ a, F [a] = none) (h3 : ∀ a b c l, F (a :: b :: c :: l) = none) : ∃ a b, vs = [a, b] := by
  cases vs with
  | nil => rw [h0] at h; cases h
  | cons a l => cases l with
    | nil => rw [h1] at h; cases h
    | cons b l => cases l with
      | nil => exact ⟨a, b, rfl⟩
      | cons c l => rw [h3] at h; cases h
theorem argRef {R : Type} {F : AVal → Option R} {a : AVal} {r : R} (h : F a = some r) (h1 : ∀ i, F (.int i) = none) (h2 : ∀ b, F (.bool b) = none) (h3 : F .none = none) (h4 : ∀ v, F (.stat v) = none) : ∃ i, a = .ref i := by
  cases a with
  | ref i => exact ⟨i, rfl⟩
  | int i => rw [h1] at h; cases h
  | bool i => rw [h2] at h; cases h
  | none => rw [h3] at h; cases h
  | stat i => rw [h4] at h; cases h
theorem argInt {R : Type} {F : AVal → Option R} {a : AVal} {r : R} (h : F a = some r) (h1 : ∀ i, F (.ref i) = none) (h2 : ∀ b, F (.bool b) = none) (h3 : F .none = none) (h4 : ∀ v, F (.stat v) = none) : ∃ i, a = .int i := by
  cases a with
  | int i => exact ⟨i, rfl⟩
  | ref i => rw [h1] at h; cases h
  | bool i => rw [h2] at h; cases h
  | none => rw [h3] at h; cases h
  | stat i => rw [h4] at h; cases h
theorem getO_inv {β : Type} {f : AObj → M β} {i : Nat} {σ : St} {r : β × St} (h : (getO i >>= f) σ = some r) : ∃ o, σ.H[i]? = some o ∧ f o σ = some r := by
  obtain ⟨o, σ₁, e1, e2⟩ := bind_some h
  obtain ⟨e3, rfl⟩ := getO_some e1
  exact ⟨o, e3, e2⟩
theorem getL_inv {β : Type} {f : List AVal → M β} {i : Nat} {σ : St} {r : β × St} (h : (do match ← getO i with | .list xs => f xs | _ => fail : M β) σ = some r) : ∃ xs, σ.H[i]? = some (.list xs) ∧ f xs σ = some r := by
  obtain ⟨o, e1, e2⟩ := getO_inv h
  cases o with
  | list xs => exact ⟨xs, e1, e2⟩
  | _ => exact (fail_some (σ := σ) e2).elim
theorem getT_inv {β : Type} {f : List AVal → M β} {i : Nat} {σ : St} {r : β × St} (h : (do match ← getO i with | .tuple xs => f xs | _ => fail : M β) σ = some r) : ∃ xs, σ.H[i]? = some (.tuple xs) ∧ f xs σ = some r := by
  obtain ⟨o, e1, e2⟩ := getO_inv h
  cases o with
  | tuple xs => exact ⟨xs, e1, e2⟩
  | _ => exact (fail_some (σ := σ) e2).elim
theorem getS_inv {β : Type} {f : List Int → M β} {i : Nat} {σ : St} {r : β × St} (h : (do match ← getO i with | .set xs => f xs | _ => fail : M β) σ = some r) : ∃ xs, σ.H[i]? = some (.set xs) ∧ f xs σ = some r := by
  obtain ⟨o, e1, e2⟩ := getO_inv h
  cases o with
  | set xs => exact ⟨xs, e1, e2⟩
  | _ => exact (fail_some (σ := σ) e2).elim
theorem getI_inv {β : Type} {f : Nat → Nat → M β} {i : Nat} {σ : St} {r : β × St} (h : (do match ← getO i with | .iter l j => f l j | _ => fail : M β) σ = some r) : ∃ l j, σ.H[i]? = some (.iter l j) ∧ f l j σ = some r := by
  obtain ⟨o, e1, e2⟩ := getO_inv h
  cases o with
  | iter l j => exact ⟨l, j, e1, e2⟩
  | _ => exact (fail_some (σ := σ) e2).elim
theorem ite_inv {β : Type} {c : Prop} [Decidable c] {a : M β} {σ : St} {r : β × St} (h : (if c then a else fail : M β) σ = some r) : c ∧ a σ = some r := by
  by_cases q : c
  · rw [if_pos q] at h; exact ⟨q, h⟩
  · rw [if_neg q] at h; exact (fail_some (σ := σ) h).elim
theorem set_inv {i : Nat} {o : AObj} {u v : AVal} {σ σ' : St} (h : (do setO i o; pure u : M AVal) σ = some (v, σ')) : v = u ∧ σ' = ⟨σ.lo, σ.H.set i o⟩ := by
  refine  bind_k h fun _ σ₃ e3 e4 => ?_
  obtain ⟨rfl, rfl⟩ := pure_some e4
  cases e3
  exact ⟨rfl, rfl⟩
noncomputable def lenA : List AVal → M AVal
  | [.ref i] => do
    match ← getO i with
    | .list vs => if vs.length ≤ 1000 then pure (.int vs.length) else fail
    | .tuple vs => if vs.length ≤ 1000 then pure (.int vs.length) else fail
    | _ => fail
  | _ => fail
theorem bi_len : BiSim prog w h₀ hd k (.builtin "len") lenA := by
  intro A env ρ₀ vs cs ha hvs s ρ σ e rr v σ' hd' Q E kk
  refine (let Gol : Prop := _; (?_ : Gol))
  obtain ⟨u, hq⟩ := args1 (F := fun vs => lenA vs σ) hd' rfl (fun a _ _ => by cases a <;> rfl)
  subst hq
  obtain ⟨i, hq⟩ := argRef (F := fun u => lenA [u] σ) hd' (fun _ => rfl) (fun _ => rfl) rfl (fun _ => rfl)
  subst hq
  obtain ⟨o, e3, e2⟩ := getO_inv hd'
  clear hd'
  obtain ⟨c, rfl, hc⟩ := hvs.one
  have hc := hc.ext e
  cases o with
  | list us =>
    refine  listAt_k rr.hp e3 fun a its n q1 q2 q3 q4 => ?_
    obtain ⟨hl, e4⟩ := ite_inv e2
    obtain ⟨rfl, rfl⟩ := pure_some e4
    unfold Gol; clear Gol
    rw [hc.eq_ref q1]
    exact PySem.Calls.call_len_list (IsL.isList q2) (by rw [q4]; omega) (kk _ s.heap _ ρ ⟨_, by rw [q4]⟩ rr (.refl ..))
  | tuple us =>
    refine  getK_k rr.hp e3 fun a q1 hy13 => ?_
    obtain ⟨its, n, q2, q3⟩ := hy13
    have q4 : its.size = us.length := by rw [← q3.length]; simp
    obtain ⟨hl, e4⟩ := ite_inv e2
    obtain ⟨rfl, rfl⟩ := pure_some e4
    unfold Gol; clear Gol
    rw [hc.eq_ref q1]
    exact PyProof.Rows.len_tuple ⟨_, q2, rfl, n, rfl⟩ (by rw [q4]; omega) (kk _ s.heap _ ρ ⟨_, by rw [q4]⟩ rr (.refl ..))
  | _ => exact (fail_some (σ := σ) e2).elim
end
end Mine
end

section
open PySem PySem.W PyProof.Rows
set_option autoImplicit false
set_option linter.unusedVariables false
namespace Mine

noncomputable def nxList (i : Nat) : Nx := fun j H => match H[i]? with
  | some (.list vs) => some vs[j]?
  | _ => none
noncomputable def nxTuple (i : Nat) : Nx := fun j H => match H[i]? with
  | some (.tuple vs) => some vs[j]?
  | _ => none
noncomputable def nxRange (a c : Int) (n : Nat) : Nx := fun j _ => some (if j < n then some (.int (a + (j : Int) * c)) else none)
noncomputable def nxKeys (i ep n : Nat) : Nx := fun j H => match H[i]? with
  | some (.dict ep' kvs) => if ep' = ep ∧ kvs.length = n then some (kvs[j]?.map fun p => .int p.1) else none
  | _ => none
noncomputable def nxVals (i ep n : Nat) : Nx := fun j H => match H[i]? with
  | some (.dict ep' kvs) => if ep' = ep ∧ kvs.length = n then some (kvs[j]?.map fun p => p.2) else none
  | _ => none
noncomputable def mkNx : AVal → M Nx
  | .ref i => do
    match ← getO i with
    | .list _ => pure (nxList i)
    | .tuple _ => pure (nxTuple i)
    | .range a b c => if Builtin.Range.small a b c = true ∧ 0 ≤ Builtin.Range.rangeSize a b c then pure (nxRange a c (Builtin.Range.rangeSize a b c).toNat) else fail
    | .dict ep kvs => pure (nxKeys i ep kvs.length)
    | .values d => do
      match ← getO d with
      | .dict ep kvs => pure (nxVals d ep kvs.length)
      | _ => fail
    | _ => fail
  | _ => fail

theorem VPs.get {K : Type} {ρ : Rho} {vs : List (K × AVal)} {cs : List (K × Value)} (h : VPs ρ vs cs) {i : Nat} {p : K × AVal} (e : vs[i]? = some p) : ∃ c, cs[i]? = some (p.1, c) ∧ VR ρ p.2 c := by
  induction h generalizing i with
  | nil => simp at e
  | cons a _ ih =>
    cases i with
    | zero => simp at e; subst e; exact ⟨_, by simp, a⟩
    | succ i => simp at e; obtain ⟨c, h1, h2⟩ := ih e; exact ⟨c, by simpa using h1, h2⟩
theorem VPs.getNone {K : Type} {ρ : Rho} {vs : List (K × AVal)} {cs : List (K × Value)} (h : VPs ρ vs cs) {i : Nat} (e : vs[i]? = none) : cs[i]? = none := by
  have := h.length
  simp at e ⊢
  omega
theorem VRs.getNone {ρ : Rho} {vs : List AVal} {cs : List Value} (h : VRs ρ vs cs) {i : Nat} (e : vs[i]? = none) : cs[i]? = none := by
  have := h.length
  simp at e ⊢
  omega

section
variable {prog : Program} {w : World} {h₀ : Heap} {hd : Bool} {k : Nat} {sc : Scope} {K : Frag} {A : Around}

theorem it_list (hh : A.handled = none) (I : Addr) (i : Nat) : Iter prog w h₀ A I (nxList i) (fun ρ j o => ∃ a, ρ[i]? = some a ∧ o.cls = .type "list_iterator" ∧ o.data = .fields #[.ref a, .int j 0]) where
  ext := fun ρ ρ' j o x ⟨a, h1, h2⟩ => ⟨a, x _ _ h1, h2⟩
  nodict := fun ρ j o ⟨a, h1, h2, h3⟩ es ep q => by rw [h3] at q; cases q
  item := by
    intro s ρ H j o v Q E r hI hz1 hn kk
    try clear Gol
    refine (let Gol : Prop := _; (?_ : Gol))
    obtain ⟨a, h1, h2, h3⟩ := hz1
    unfold nxList at hn
    split at hn
    · rename_i vs e
      refine  listAt_k r e fun a' its n q1 q2 q3 q4 => ?_
      rw [h1] at q1; cases q1
      obtain ⟨c, e5, e6⟩ := q3.get (Option.some.inj hn)
      refine wpAny_pyNext_list_item ⟨o, hI, h2, h3⟩ (IsL.isList q2) (by simpa using e5) fun h' hit hs => ?_
      try clear Gol
      refine (let Gol : Prop := _; (?_ : Gol))
      obtain ⟨o', e7, e8, e9⟩ := hit
      exact kk c h' s.toks o' e6 e7 ⟨a, h1, e8, e9⟩ hs.extBut
    · cases hn
  done := by
    intro s ρ H j o Q E r hI hz2 hn kk
    try clear Gol
    refine (let Gol : Prop := _; (?_ : Gol))
    obtain ⟨a, h1, h2, h3⟩ := hz2
    unfold nxList at hn
    split at hn
    · rename_i vs e
      refine  listAt_k r e fun a' its n q1 q2 q3 q4 => ?_
      rw [h1] at q1; cases q1
      have e5 := q3.getNone (Option.some.inj hn)
      exact wpAny_pyNext_list_end hh ⟨o, hI, h2, h3⟩ (IsL.isList q2) (by simpa using e5) fun h' hs => kk h' s.toks hs
    · cases hn
  self := fun s ρ j o Q E hI ⟨a, h1, h2, h3⟩ hq => wpAny_pyIter_listiter ⟨o, hI, h2, h3⟩ hq
theorem it_tuple (hh : A.handled = none) (I : Addr) (i : Nat) : Iter prog w h₀ A I (nxTuple i) (fun ρ j o => ∃ a, ρ[i]? = some a ∧ o.cls = .type "tuple_iterator" ∧ o.data = .fields #[.ref a, .int j 0]) where
  ext := fun ρ ρ' j o x ⟨a, h1, h2⟩ => ⟨a, x _ _ h1, h2⟩
  nodict := fun ρ j o ⟨a, h1, h2, h3⟩ es ep q => by rw [h3] at q; cases q
  item := by
    intro s ρ H j o v Q E r hI hz3 hn kk
    try clear Gol
    refine (let Gol : Prop := _; (?_ : Gol))
    obtain ⟨a, h1, h2, h3⟩ := hz3
    unfold nxTuple at hn
    split at hn
    · rename_i vs e
      refine  getK_k r e fun a' q1 hy1 => ?_
      obtain ⟨its, n, q2, q3⟩ := hy1
      rw [h1] at q1; cases q1
      obtain ⟨c, e5, e6⟩ := q3.get (Option.some.inj hn)
      refine wpAny_pyNext_tuple_item ⟨o, hI, h2, h3⟩ ⟨_, q2, rfl, n, rfl⟩ (by simpa using e5) fun h' hit hs => ?_
      try clear Gol
      refine (let Gol : Prop := _; (?_ : Gol))
      obtain ⟨o', e7, e8, e9⟩ := hit
      exact kk c h' s.toks o' e6 e7 ⟨a, h1, e8, e9⟩ hs.extBut
    · cases hn
  done := by
    intro s ρ H j o Q E r hI hz4 hn kk
    try clear Gol
    refine (let Gol : Prop := _; (?_ : Gol))
    obtain ⟨a, h1, h2, h3⟩ := hz4
    unfold nxTuple at hn
    split at hn
    · rename_i vs e
      refine  getK_k r e fun a' q1 hy2 => ?_
      obtain ⟨its, n, q2, q3⟩ := hy2
      rw [h1] at q1; cases q1
      have e5 := q3.getNone (Option.some.inj hn)
      exact wpAny_pyNext_tuple_end hh ⟨o, hI, h2, h3⟩ ⟨_, q2, rfl, n, rfl⟩ (by simpa using e5) fun h' hs => kk h' s.toks hs
    · cases hn
  self := fun s ρ j o Q E hI ⟨a, h1, h2, h3⟩ hq => wpAny_pyIter_tupleiter ⟨o, hI, h2, h3⟩ hq
theorem it_range (hh : A.handled = none) (I : Addr) (a c : Int) (n : Nat) : Iter prog w h₀ A I (nxRange a c n) (fun ρ j o => o = { cls := .type "range_iterator", dict := none, data := .fields #[rawInt (a + (j : Int) * c), rawInt ((n : Int) - (j : Int)), rawInt c], slots := #[] }) where
  ext := fun ρ ρ' j o x h => h
  nodict := fun ρ j o h es ep q => by rw [h] at q; cases q
  item := by
    rintro s ρ H j o v Q E r hI rfl hn kk
    unfold nxRange at hn
    have hn := Option.some.inj hn
    by_cases hj : j < n
    · rw [if_pos hj] at hn
      cases hn
      refine wpAny_pyNext_range_item hI (by omega) fun h' hit hs => ?_
      try clear Gol
      refine kk _ h' _ _ ⟨_, rfl⟩ hit ?_ hs.extBut
      have e1 : a + ((j + 1 : Nat) : Int) * c = a + (j : Int) * c + c := by push_cast; rw [Int.add_mul, Int.one_mul, Int.add_assoc]
      have e2 : (n : Int) - ((j + 1 : Nat) : Int) = (n : Int) - (j : Int) - 1 := by push_cast; omega
      try (unfold Gol; clear Gol)
      rw [e1, e2]
    · rw [if_neg hj] at hn; cases hn
  done := by
    rintro s ρ H j o Q E r hI rfl hn kk
    unfold nxRange at hn
    have hn := Option.some.inj hn
    try (unfold Gol; clear Gol)
    by_cases hj : j < n
    · rw [if_pos hj] at hn; cases hn
    · exact wpAny_pyNext_range_end hh hI (by omega) fun h' hs => kk h' s.toks hs
  self := by
    rintro s ρ j o Q E hI rfl hq
    exact wpAny_pyIter_rangeiter hI hq
theorem it_keys (hh : A.handled = none) (I : Addr) (i ep n : Nat) : Iter prog w h₀ A I (nxKeys i ep n) (fun ρ j o => ∃ a, ρ[i]? = some a ∧ o.cls = .type "dict_keyiterator" ∧ o.data = .fields #[.ref a, .int j 0, .int n 0, .int ep 0]) where
  ext := fun ρ ρ' j o x ⟨a, h1, h2⟩ => ⟨a, x _ _ h1, h2⟩
  nodict := fun ρ j o ⟨a, h1, h2, h3⟩ es ep q => by rw [h3] at q; cases q
  item := by
    intro s ρ H j o v Q E r hI hz5 hn kk
    try clear Gol
    refine (let Gol : Prop := _; (?_ : Gol))
    obtain ⟨a, h1, h2, h3⟩ := hz5
    unfold nxKeys at hn
    split at hn
    · rename_i ep' kvs e
      split at hn
      · rename_i hc
        obtain ⟨rfl, rfl⟩ := hc
        refine  dictAt_k r e fun a' cvs q1 q2 q3 => ?_
        rw [h1] at q1; cases q1
        obtain ⟨p, e4, e5⟩ := Option.map_eq_some_iff.mp (Option.some.inj hn)
        obtain ⟨c, e6, e7⟩ := q3.get e4
        have hl := q3.length
        subst e5
        refine wpAny_pyNext_dict_item (knd := intKind prog w) (kvs := cvs) ⟨o, hI, h2, by rw [hl]; exact h3⟩ q2 e6 fun key h' hkey hit hs => ?_
        try clear Gol
        refine (let Gol : Prop := _; (?_ : Gol))
        obtain ⟨t, rfl⟩ := Value.isInt_shape hkey
        obtain ⟨o', e8, e9, e10⟩ := hit
        exact kk _ h' s.toks o' ⟨t, rfl⟩ e8 ⟨a, h1, e9, by rw [← hl]; exact e10⟩ hs.extBut
      · cases hn
    · cases hn
  done := by
    intro s ρ H j o Q E r hI hz6 hn kk
    try clear Gol
    refine (let Gol : Prop := _; (?_ : Gol))
    obtain ⟨a, h1, h2, h3⟩ := hz6
    unfold nxKeys at hn
    split at hn
    · rename_i ep' kvs e
      split at hn
      · rename_i hc
        obtain ⟨rfl, rfl⟩ := hc
        refine  dictAt_k r e fun a' cvs q1 q2 q3 => ?_
        rw [h1] at q1; cases q1
        have e4 : kvs[j]? = none := by simpa using Option.some.inj hn
        have hl := q3.length
        exact wpAny_pyNext_dict_end (knd := intKind prog w) (kvs := cvs) hh ⟨o, hI, h2, by rw [hl]; exact h3⟩ q2 (q3.getNone e4) fun h' hs => kk h' s.toks hs
      · cases hn
    · cases hn
  self := fun s ρ j o Q E hI ⟨a, h1, h2, h3⟩ hq => wpAny_pyIter_keyiter ⟨o, hI, h2, h3⟩ hq
theorem it_vals (hh : A.handled = none) (I : Addr) (i ep n : Nat) : Iter prog w h₀ A I (nxVals i ep n) (fun ρ j o => ∃ a, ρ[i]? = some a ∧ o.cls = .type "dict_valueiterator" ∧ o.data = .fields #[.ref a, .int j 0, .int n 0, .int ep 0]) where
  ext := fun ρ ρ' j o x ⟨a, h1, h2⟩ => ⟨a, x _ _ h1, h2⟩
  nodict := fun ρ j o ⟨a, h1, h2, h3⟩ es ep q => by rw [h3] at q; cases q
  item := by
    intro s ρ H j o v Q E r hI hz7 hn kk
    try clear Gol
    refine (let Gol : Prop := _; (?_ : Gol))
    obtain ⟨a, h1, h2, h3⟩ := hz7
    unfold nxVals at hn
    split at hn
    · rename_i ep' kvs e
      split at hn
      · rename_i hc
        obtain ⟨rfl, rfl⟩ := hc
        refine  dictAt_k r e fun a' cvs q1 q2 q3 => ?_
        rw [h1] at q1; cases q1
        obtain ⟨p, e4, e5⟩ := Option.map_eq_some_iff.mp (Option.some.inj hn)
        obtain ⟨c, e6, e7⟩ := q3.get e4
        have hl := q3.length
        subst e5
        refine wpAny_pyNext_values_item (knd := intKind prog w) (kvs := cvs) ⟨o, hI, h2, by rw [hl]; exact h3⟩ q2 e6 fun h' hit hs => ?_
        try clear Gol
        refine (let Gol : Prop := _; (?_ : Gol))
        obtain ⟨o', e8, e9, e10⟩ := hit
        exact kk _ h' s.toks o' e7 e8 ⟨a, h1, e9, by rw [← hl]; exact e10⟩ hs.extBut
      · cases hn
    · cases hn
  done := by
    intro s ρ H j o Q E r hI hz8 hn kk
    try clear Gol
    refine (let Gol : Prop := _; (?_ : Gol))
    obtain ⟨a, h1, h2, h3⟩ := hz8
    unfold nxVals at hn
    split at hn
    · rename_i ep' kvs e
      split at hn
      · rename_i hc
        obtain ⟨rfl, rfl⟩ := hc
        refine  dictAt_k r e fun a' cvs q1 q2 q3 => ?_
        rw [h1] at q1; cases q1
        have e4 : kvs[j]? = none := by simpa using Option.some.inj hn
        have hl := q3.length
        exact wpAny_pyNext_values_end (knd := intKind prog w) (kvs := cvs) hh ⟨o, hI, h2, by rw [hl]; exact h3⟩ q2 (q3.getNone e4) fun h' hs => kk h' s.toks hs
      · cases hn
    · cases hn
  self := fun s ρ j o Q E hI ⟨a, h1, h2, h3⟩ hq => wpAny_pyIter_valiter ⟨o, hI, h2, h3⟩ hq

theorem mk_iter (hh : A.handled = none) {s : Shared} {ρ : Rho} {σ σ' : St} {v : AVal} {c : Value} {nx : Nx} (r : RelH prog w h₀ ρ σ.H s.heap) (hv : VR ρ v c) (hm : mkNx v σ = some (nx, σ')) {Q : Value → Shared → Prop} {E : Value → Shared → Prop}
    (kk : ∀ I o h' P, σ' = σ → Iter prog w h₀ A I nx P → h'.get? I = some o → P ρ 0 o → s.heap.objs.size ≤ I → (∀ b o, s.heap.get? b = some o → h'.get? b = some o) → Q (.ref I) { s with heap := h' }) :
    wpAny (model prog w) A (pyIter c) Q E s := by
  have old : ∀ (o : Obj) (b : Addr) (o' : Obj), s.heap.get? b = some o' → (s.heap.push o).get? b = some o' := fun o b o' e => Heap.get?_push_of_some _ e
  cases v with
  | ref i =>
    refine  bind_k hm fun o σ₁ e1 e2 => ?_
    obtain ⟨e3, rfl⟩ := getO_some e1
    cases o with
    | list vs =>
      obtain ⟨e4, rfl⟩ := pure_some e2
      subst e4
      refine  listAt_k r e3 fun a its n q1 q2 q3 q4 => ?_
      rw [hv.eq_ref q1]
      exact wpAny_pyIter_list (IsL.isList q2) (kk _ _ _ _ rfl (it_list hh _ i) (Heap.get?_push_size _ rfl) ⟨a, q1, rfl, rfl⟩ (Nat.le_refl _) (old _))
    | tuple vs =>
      obtain ⟨e4, rfl⟩ := pure_some e2
      subst e4
      refine  getK_k r e3 fun a q1 hy4 => ?_
      obtain ⟨its, n, q2, q3⟩ := hy4
      rw [hv.eq_ref q1]
      exact wpAny_pyIter_tuple ⟨_, q2, rfl, n, rfl⟩ (kk _ _ _ _ rfl (it_tuple hh _ i) (Heap.get?_push_size _ rfl) ⟨a, q1, rfl, rfl⟩ (Nat.le_refl _) (old _))
    | range x y z =>
      simp only at e2
      split at e2
      · rename_i hc
        obtain ⟨e4, rfl⟩ := pure_some e2
        subst e4
        refine  getK_k r e3 fun a q1 hy5 => ?_
        obtain ⟨t, u, v', q2⟩ := hy5
        rw [hv.eq_ref q1]
        refine wpAny_pyIter_range q2 hc.1 (kk _ _ _ _ rfl (it_range hh _ x z _) (Heap.get?_push_size _ rfl) ?_ (Nat.le_refl _) (old _))
        have h1 : ((Builtin.Range.rangeSize x y z).toNat : Int) = Builtin.Range.rangeSize x y z := Int.toNat_of_nonneg hc.2
        simp [h1]
      · exact (fail_some (σ := σ₁) e2).elim
    | dict ep kvs =>
      obtain ⟨e4, rfl⟩ := pure_some e2
      subst e4
      refine  dictAt_k r e3 fun a cvs q1 q2 q3 => ?_
      rw [hv.eq_ref q1]
      refine wpAny_pyIter_dict (r.mods a (List.mem_iff_getElem?.mpr ⟨i, q1⟩)) q2 (kk _ _ _ _ rfl (it_keys hh _ i ep _) (Heap.get?_push_size _ rfl) ⟨a, q1, rfl, ?_⟩ (Nat.le_refl _) (old _))
      rw [q3.length]; rfl
    | values d =>
      refine  bind_k e2 fun o' σ₂ e4 e5 => ?_
      obtain ⟨e6, rfl⟩ := getO_some e4
      cases o' with
      | dict ep kvs =>
        obtain ⟨e7, rfl⟩ := pure_some e5
        subst e7
        refine  getK_k r e3 fun a q1 hy7 => ?_
        obtain ⟨b, q2, q3⟩ := hy7
        refine  dictAt_k r e6 fun a' cvs q4 q5 q6 => ?_
        rw [q2] at q4; cases q4
        rw [hv.eq_ref q1]
        refine wpAny_pyIter_values q3 q5 (kk _ _ _ _ rfl (it_vals hh _ d ep _) (Heap.get?_push_size _ rfl) ⟨b, q2, rfl, ?_⟩ (Nat.le_refl _) (old _))
        rw [q6.length]; rfl
      | _ => exact (fail_some (σ := σ₂) e5).elim
    | _ => exact (fail_some (σ := σ₁) e2).elim
  | _ => exact (fail_some (σ := σ) hm).elim

/-- a for over what mkNx serves -/
theorem s_for {target iter : Expr} {body : List Stmt} {pos : Pos} {di : M AVal} {bnd : AVal → M Unit} {db : M AFlow} (n : Nat) (hi : SimE prog w h₀ true k sc iter di)
    (hbnd : ∀ A env ρ v c, AOk true k A → EOk sc env → VR ρ v c → Sim prog w h₀ A env ρ (assign target env c) (fun _ _ _ => True) (bnd v)) (hb : SimB prog w h₀ true k sc body db)
    (hs : ∀ env x, foldedSetIterable iter env x = pure x := by intro _ _; rfl) (ht : ∀ it v, letOwnedTupleGo target it v = pure () := by intro _ _; rfl) :
    SimS prog w h₀ true k sc (.For target iter body [] pos) (do let v ← di; let nx ← mkNx v; dLoop nx bnd db n 0) := by
  intro A env ρ₀ ha he s ρ σ e rr f σ' hd' Q E kk
  refine  bind_k hd' fun v σ₁ e1 hd' => ?_
  refine  bind_k hd' fun nx σ₂ e2 e3 => ?_
  refine wpAny_For (hi A env ρ₀ ha he s ρ σ e rr v σ₁ e1 _ _ fun c h₁ tk₁ ρ₁ R₁ r₁ st₁ => ?_) (hs env)
  try clear Gol
  refine mk_iter (ha.handled rfl) r₁.hp R₁ e2 fun I o h₂ P hσ it hI hP hge hk => ?_
  try clear Gol
  refine (let Gol : Prop := _; (?_ : Gol))
  subst hσ
  have hI1 : h₁.get? I = none := free_of_ge hge
  have hIρ : I ∉ ρ₁ := fun q => by obtain ⟨o', e'⟩ := r₁.hp.alive q; rw [hI1] at e'; cases e'
  have hIf : ¬ Fa env I := fun q => by obtain ⟨o', e'⟩ := r₁.fr.alive q; rw [hI1] at e'; cases e'
  have hI0 : h₀.get? I = none := by
    cases q : h₀.get? I with
    | none => rfl
    | some o' => have := r₁.hp.keep I o' q; rw [hI1] at this; cases this
  refine for_loop (ρ₀ := ρ) n ha he it (fun ρ v c hv => hbnd A env ρ v c ha he hv) hb ht (s := { s with heap := h₂, toks := tk₁ }) (r₁.same hk) hI hP hIρ hIf hI0 (r₁.fo.noFr hI1) e3 fun c h₃ tk₃ ρ₃ R₃ r₃ st₃ => ?_
  try clear Gol
  refine kk c h₃ tk₃ ρ₃ R₃ r₃ (r₃.trans st₁ ⟨st₃.ext, fun b o e hb hq => st₃.keep b o (hk b o e) hb fun q => q.elim hq fun q => ?_, fun a hm hn => ?_⟩)
  · rw [q, hI1] at e; cases e
  · have h1 := st₃.fresh a hm hn
    cases q : h₁.get? a with
    | none => rfl
    | some o' => rw [hk a o' q] at h1; cases h1
/-- the target is a name -/
theorem bnd_name {x : Str} {px : Pos} (hx : sc.names.lookup x = some .local ∨ sc.names.lookup x = some .cell) {A : Around} {env : Env} {ρ : Rho} {v : AVal} {c : Value} (ha : AOk hd k A) (he : EOk sc env) (hv : VR ρ v c) :
    Sim prog w h₀ A env ρ (assign (.Name x px) env c) (fun _ _ _ => True) (setV x v) := by
  intro s ρ' σ e r u σ' hd' Q E kk
  exact wpAny_assign_Name (store_any he hx hv s ρ' σ e r u σ' hd' Q E kk)
end
end Mine
end

section
open PySem PySem.W PyProof.Rows
set_option autoImplicit false
set_option linter.unusedVariables false
namespace Mine

/-- what a comprehension's scope is within a def's -/
noncomputable def relS (sc scope : Scope) : Scope :=
  { scope with names := scope.names.map fun (n, k) => if (k == .free && sc.kind == .function && sc.names.lookup n == some .cell) then (n, .cell) else (n, k) }

noncomputable def clStep (env : Env) (cs : List (Str × Addr)) (p : Str × NameKind) : List (Str × Addr) := if p.2 == .free then (p.1, (env.cells.lookup p.1).getD 0) :: cs else cs
theorem closureFor_eq {scope : Scope} {env : Env} (h : ∀ p ∈ scope.names, p.2 = .free → (env.cells.lookup p.1).isSome = true) : closureFor scope env = pure (scope.names.foldl (clStep env) []) := by
  unfold closureFor
  have key : ∀ (l : List (Str × NameKind)) (cs : List (Str × Addr)), (∀ p ∈ l, p.2 = .free → (env.cells.lookup p.1).isSome = true) →
      (forIn l cs fun (p : Str × NameKind) (cs : List (Str × Addr)) => (if (p.2 == .free) = true then do let a ← cellOf env p.1; pure (ForInStep.yield ((p.1, a) :: cs)) else pure (ForInStep.yield cs) : Sem (ForInStep (List (Str × Addr))))) = pure (l.foldl (clStep env) cs) := by
    intro l
    induction l with
    | nil => intro cs _; rfl
    | cons p t ih =>
      intro cs hp
      rw [List.forIn_cons, List.foldl_cons]
      have hp1 := hp p List.mem_cons_self
      have ht := fun q hq => hp q (List.mem_cons_of_mem _ hq)
      by_cases hf : p.2 = .free
      · obtain ⟨a, ha⟩ := Option.isSome_iff_exists.mp (hp1 hf)
        have h1 : (p.2 == NameKind.free) = true := by rw [hf]; rfl
        have hc : cellOf env p.1 = pure a := by unfold cellOf; rw [ha]
        simp only [h1, if_true, hc, pure_bind]
        rw [ih _ ht]
        simp [clStep, h1, ha]
      · have h1 : (p.2 == NameKind.free) = false := by simpa using hf
        simp only [h1, Bool.false_eq_true, if_false, pure_bind]
        rw [ih _ ht]
        simp [clStep, h1]
  have := key scope.names [] h
  simp only [this]
  rfl
theorem cl_lookup {env : Env} : ∀ (l : List (Str × NameKind)) (cs : List (Str × Addr)), (∀ p ∈ l, p.2 = .free → (env.cells.lookup p.1).isSome = true) → (∀ x a, cs.lookup x = some a → env.cells.lookup x = some a) →
    ∀ x a, (l.foldl (clStep env) cs).lookup x = some a → env.cells.lookup x = some a
  | [], cs, _, h => h
  | p :: t, cs, hp, h => by
    refine cl_lookup t _ (fun q hq => hp q (List.mem_cons_of_mem _ hq)) fun x a hx => ?_
    try clear Gol
    refine (let Gol : Prop := _; (?_ : Gol))
    unfold clStep at hx
    try (unfold Gol; clear Gol)
    by_cases hf : p.2 = .free
    · have h1 : (p.2 == NameKind.free) = true := by rw [hf]; rfl
      rw [if_pos h1, List.lookup_cons] at hx
      obtain ⟨b, hb⟩ := Option.isSome_iff_exists.mp (hp p List.mem_cons_self hf)
      try (unfold Gol; clear Gol)
      by_cases e : (x == p.1) = true
      · simp only [e, hb, Option.getD_some] at hx
        cases hx
        try (unfold Gol; clear Gol)
        rw [beq_iff_eq.mp e]; exact hb
      · simp only [e] at hx; exact h x a hx
    · have h1 : ¬ (p.2 == NameKind.free) = true := by simpa using hf
      rw [if_neg h1] at hx; exact h x a hx
theorem cl_some {env : Env} : ∀ (l : List (Str × NameKind)) (cs : List (Str × Addr)) (x : Str), (x, NameKind.free) ∈ l ∨ (cs.lookup x).isSome = true → ((l.foldl (clStep env) cs).lookup x).isSome = true
  | [], cs, x, h => h.elim (fun h => nomatch h) id
  | p :: t, cs, x, h => by
    refine cl_some t _ x ?_
    try clear Gol
    rcases h with h | h
    · rcases List.mem_cons.mp h with rfl | h
      · refine .inr ?_
        try clear Gol
        try (unfold Gol; clear Gol)
        show ((clStep env cs (x, NameKind.free)).lookup x).isSome = true
        try (unfold Gol; clear Gol)
        unfold clStep
        try (unfold Gol; clear Gol)
        rw [if_pos (by rfl), List.lookup_cons]
        try (unfold Gol; clear Gol)
        simp
      · exact .inl h
    · refine .inr ?_
      try clear Gol
      try (unfold Gol; clear Gol)
      unfold clStep
      try (unfold Gol; clear Gol)
      by_cases hf : (p.2 == NameKind.free) = true
      · rw [if_pos hf, List.lookup_cons]
        try (unfold Gol; clear Gol)
        by_cases e : (x == p.1) = true
        · simp [e]
        · simp only [e]; exact h
      · rw [if_neg hf]; exact h
theorem cl_mem {env : Env} : ∀ (l : List (Str × NameKind)) (cs : List (Str × Addr)) (x : Str), ((l.foldl (clStep env) cs).lookup x).isSome = true → (x, NameKind.free) ∈ l ∨ (cs.lookup x).isSome = true
  | [], cs, x, h => .inr h
  | p :: t, cs, x, h => by
    rcases cl_mem t _ x h with h | h
    · exact .inl (List.mem_cons_of_mem _ h)
    · unfold clStep at h
      by_cases hf : (p.2 == NameKind.free) = true
      · rw [if_pos hf, List.lookup_cons] at h
        by_cases e : (x == p.1) = true
        · refine .inl ?_
          try clear Gol
          obtain ⟨a, b⟩ := p
          try (unfold Gol; clear Gol)
          rw [beq_iff_eq.mp e, ← beq_iff_eq.mp hf]
          exact List.mem_cons_self
        · simp only [e] at h; exact .inr h
      · rw [if_neg hf] at h; exact .inr h
theorem relS_lookup {sc : Scope} : ∀ {l : List (Str × NameKind)} {x : Str} {kd : NameKind}, l.lookup x = some kd →
    (l.map fun (n, k) => if (k == NameKind.free && sc.kind == .function && sc.names.lookup n == some .cell) then (n, NameKind.cell) else (n, k)).lookup x
      = some (if (kd == NameKind.free && sc.kind == .function && sc.names.lookup x == some .cell) = true then .cell else kd)
  | [], _, _, h => by simp at h
  | (n, k) :: r, x, kd, h => by
    rw [List.lookup_cons] at h
    rw [List.map_cons]
    have e0 : ∀ b : Bool, (if b = true then (n, NameKind.cell) else (n, k)) = (n, if b = true then NameKind.cell else k) := fun b => by cases b <;> rfl
    simp only [e0, List.lookup_cons]
    by_cases e : (x == n) = true
    · simp only [e] at h ⊢
      cases h
      rw [beq_iff_eq.mp e]
    · simp only [e] at h ⊢
      exact relS_lookup h
theorem relS_none {sc : Scope} : ∀ {l : List (Str × NameKind)} {x : Str}, l.lookup x = none →
    (l.map fun (n, k) => if (k == NameKind.free && sc.kind == .function && sc.names.lookup n == some .cell) then (n, NameKind.cell) else (n, k)).lookup x = none
  | [], _, h => rfl
  | (n, k) :: r, x, h => by
    rw [List.lookup_cons] at h
    rw [List.map_cons]
    have e0 : ∀ b : Bool, (if b = true then (n, NameKind.cell) else (n, k)) = (n, if b = true then NameKind.cell else k) := fun b => by cases b <;> rfl
    simp only [e0, List.lookup_cons]
    by_cases e : (x == n) = true
    · simp only [e] at h; cases h
    · simp only [e] at h ⊢
      exact relS_none h

noncomputable def loC (scope : Scope) (lo : Lo) : Lo := fun y => if scope.names.lookup y = some .free then lo y else none
noncomputable def push (i : Nat) (v : AVal) : M Unit := do
  match ← getO i with
  | .list vs => if vs.length ≤ 1000 then setO i (.list (vs ++ [v])) else fail
  | _ => fail
noncomputable def dCompL (nx : Nx) (tgt : Str) (dt : M Bool) (de : M AVal) (i : Nat) : Nat → Nat → M Unit
  | 0, _ => fail
  | n + 1, j => fun σ => match nx j σ.H with
    | none => none
    | some none => some ((), σ)
    | some (some v) => ((do
      setV tgt v
      if ← dt then
        let y ← de
        push i y
        dCompL nx tgt dt de i n (j + 1)
      else dCompL nx tgt dt de i n (j + 1)) : M Unit) σ
noncomputable def dComp (scope : Scope) (di : M AVal) (tgt : Str) (dt : M Bool) (de : M AVal) (n : Nat) : M AVal := do
  let v ← di
  let nx ← mkNx v
  fun σ => (dCompL nx tgt dt de σ.H.length n 0 ⟨loC scope σ.lo, σ.H ++ [.list []]⟩).map fun p => (.ref σ.H.length, ⟨σ.lo, p.2.H⟩)

noncomputable def KeepsLo {α : Type} (d : M α) : Prop := ∀ σ v σ', d σ = some (v, σ') → σ'.lo = σ.lo

section
variable {prog : Program} {w : World} {h₀ : Heap} {hd : Bool} {k : Nat} {sc : Scope} {K : Frag} {A : Around}

/-- the tests of one clause -/
noncomputable def SimI (prog : Program) (w : World) (h₀ : Heap) (hd : Bool) (k : Nat) (sc : Scope) (ifs : List Expr) (d : M Bool) : Prop :=
  ∀ A env ρ₀, AOk hd k A → EOk sc env → Sim prog w h₀ A env ρ₀ (forIn ifs true fun c r => if r = true then do let ok ← isTrue c env (eval c env); pure (ForInStep.yield ok) else pure (ForInStep.yield r)) (fun _ b c => c = b) d
theorem i_nil : SimI prog w h₀ hd k sc [] (pure true) := fun A env ρ₀ ha he => Sim.leaf fun s ρ σ _ r Q E kk => by rw [List.forIn_nil]; exact wpAny_pure (kk _ s.toks rfl)
theorem i_one {e : Expr} {d : M Bool} (h : SimT prog w h₀ hd k sc e d) : SimI prog w h₀ hd k sc [e] d := by
  intro A env ρ₀ ha he s ρ σ e₀ rr v σ' hd' Q E kk
  try (unfold Gol; clear Gol)
  rw [List.forIn_cons]
  try (unfold Gol; clear Gol)
  simp only [if_true]
  refine wpAny_bind (wpAny_bind (h A env ρ₀ ha he s ρ σ e₀ rr v σ' hd' _ _ fun c h₁ tk₁ ρ₁ R₁ r₁ st₁ => wpAny_pure ?_))
  try clear Gol
  try (unfold Gol; clear Gol)
  dsimp only
  try (unfold Gol; clear Gol)
  rw [List.forIn_nil]
  exact wpAny_pure (kk c h₁ tk₁ ρ₁ R₁ r₁ st₁)

theorem push_some {i : Nat} {v : AVal} {σ σ' : St} {u : Unit} (h : push i v σ = some (u, σ')) : ∃ vs, σ.H[i]? = some (.list vs) ∧ vs.length ≤ 1000 ∧ σ' = ⟨σ.lo, σ.H.set i (.list (vs ++ [v]))⟩ := by
  refine  bind_k h fun o σ₁ e1 e2 => ?_
  obtain ⟨e3, rfl⟩ := getO_some e1
  cases o with
  | list vs =>
    simp only at e2
    split at e2
    · cases e2; exact ⟨vs, e3, by assumption, rfl⟩
    · exact (fail_some (σ := σ₁) e2).elim
  | _ => exact (fail_some (σ := σ₁) e2).elim
theorem append_obj {ρ : Rho} {H : List AObj} {h : Heap} (r : RelH prog w h₀ ρ H h) {i : Nat} {vs : List AVal} (e : H[i]? = some (.list vs)) {a : Addr} (ha : ρ[i]? = some a) {v : AVal} {c : Value} (hv : VR ρ v c) {h' : Heap} {its : Array Value} (hl : h.PlainList a its) (hl' : h'.PlainList a (its.push c)) :
    ObjAt prog w ρ (.list (vs ++ [v])) h' a := by
  refine  listAt_k r e fun a' its' n q1 q2 q3 q4 => ?_
  rw [ha] at q1; cases q1
  obtain ⟨n', e'⟩ := hl
  have q2' : h.get? a = _ := q2
  rw [e'] at q2'
  cases q2'
  exact ⟨_, hl', by rw [Array.toList_push]; exact q3.append (.cons hv .nil)⟩

theorem e_comp {elt iter : Expr} {x : Str} {px pos : Pos} {ifs : List Expr} {scope : Scope} {di : M AVal} {dt : M Bool} {de : M AVal} (n : Nat) (hi : SimE prog w h₀ true k sc iter di)
    (ht : SimI prog w h₀ true k (relS sc scope) ifs dt) (hel : SimE prog w h₀ true k (relS sc scope) elt de) (lt : KeepsLo dt) (le : KeepsLo de)
    (hfree : ∀ p ∈ scope.names, p.2 = .free → sc.names.lookup p.1 = some .cell) (hcell : ∀ y ∈ scope.names, y.2 ≠ .cell) (hkind : scope.kind = .function)
    (huniq : ∀ y ∈ scope.names, scope.names.lookup y.1 = some y.2) (hx : scope.names.lookup x = some .local)
    (hs : ∀ env x, foldedSetIterable iter env x = pure x := by intro _ _; rfl) :
    SimE prog w h₀ true k sc (.ListComp elt [⟨.Name x px, iter, ifs, 0⟩] scope pos) (dComp scope di x dt de n) := by
  intro A env ρ₀ ha he s ρ σ e₀ rr v σ' hd0 Q E kk
  refine (let Gol : Prop := _; (?_ : Gol))
  refine  bind_k hd0 fun iv σ₁ e1 hd1 => ?_
  clear hd0
  refine  bind_k hd1 fun nx σ₂ e2 e3 => ?_
  clear hd1
  obtain ⟨⟨_, σ₃⟩, e4, e5⟩ := Option.map_eq_some_iff.mp e3
  clear e3
  cases e5
  unfold Gol; clear Gol
  have hsome : ∀ p ∈ scope.names, p.2 = .free → (env.cells.lookup p.1).isSome = true := fun p hp hf => he.cells p.1 (hfree p hp hf)
  rw [eval_ListComp]
  refine wpAny_comprehension_free (use := none) rfl (hs env) (closureFor_eq hsome) hkind (fun y hy hl => hl ▸ huniq y hy) ?_
  refine hi A env ρ₀ ha he s ρ σ e₀ rr iv σ₁ e1 _ _ fun c h₁ tk₁ ρ₁ R₁ r₁ st₁ => ?_
  refine mk_iter (ha.handled rfl) r₁.hp R₁ e2 fun I o h₂ P hσ it hI hP hge hk => ?_
  subst hσ
  have r₂ : Rel prog w h₀ A.frames env ρ₁ σ₂ h₂ := r₁.same hk
  generalize hcl : scope.names.foldl (clStep env) [] = cl
  have cl1 : ∀ y a, cl.lookup y = some a → env.cells.lookup y = some a := fun y a h => cl_lookup scope.names [] hsome (fun _ _ h => by cases h) y a (hcl ▸ h)
  have cl2 : ∀ y, scope.names.lookup y = some .free → (cl.lookup y).isSome = true := fun y h => hcl ▸ cl_some scope.names [] y (.inl (mem_of_lookup h))
  have cl3 : ∀ y a, cl.lookup y = some a → scope.names.lookup y = some .free := fun y a h => by
    rcases cl_mem scope.names [] y (by rw [hcl, h]; rfl) with q | q
    · exact huniq _ q
    · cases q
  have scE : relabel scope env = relS sc scope := by unfold relabel relS Env.kindOf; rw [he.scope]
  refine wpAny_newObj_type (wpAny_newFunctionEnv hcell (by intro y hy; simp at hy) (fun h₄ hns hsb => ?_) hkind)
  dsimp only at hns hsb ⊢
  have hD : ∀ a, h₂.objs.size ≤ a → h₂.get? a = none := fun a h => free_of_ge h
  have hsz3 : (h₂.push { cls := .type "list", dict := none, data := .seq ([] : List Value).toArray }).objs.size = h₂.objs.size + 1 := Heap.size_push ..
  rw [hsz3] at hns hsb ⊢
  have low : ∀ b o, h₂.get? b = some o → b < h₂.objs.size := fun b o e => Heap.lt_size e
  have k24 : ∀ b o, h₂.get? b = some o → h₄.get? b = some o := fun b o e => hsb.extBut b o (Nat.ne_of_lt (Nat.lt_succ_of_lt (low b o e))) (Heap.get?_push_of_some _ (Heap.get?_push_of_some _ e))
  have hDl : h₄.PlainList h₂.objs.size #[] := ⟨_, hsb.extBut _ _ (Nat.ne_of_lt (Nat.lt_succ_self _)) (Heap.get?_push_of_some _ (Heap.get?_push_size _ rfl))⟩
  have hI2 : I < h₂.objs.size := Heap.lt_size hI
  have hI1 : h₁.get? I = none := free_of_ge hge
  have hIρ : I ∉ ρ₁ := fun q => by obtain ⟨o', e'⟩ := r₁.hp.alive q; rw [hI1] at e'; cases e'
  have hIf : ¬ Fa env I := fun q => by obtain ⟨o', e'⟩ := r₁.fr.alive q; rw [hI1] at e'; cases e'
  have hI0 : h₀.get? I = none := by
    cases q : h₀.get? I with
    | none => rfl
    | some o' => have := r₁.hp.keep I o' q; rw [hI1] at this; cases this
  -- the heap with the new list
  have rH : RelH prog w h₀ (ρ₁ ++ [h₂.objs.size]) (σ₂.H ++ [.list []]) h₄ := r₂.hp.grow k24 (Nat.le_refl _) ⟨#[], hDl, .nil⟩
  have hρlt : ∀ a ∈ ρ₁, a < h₂.objs.size := fun a ha => by obtain ⟨o', e'⟩ := r₂.hp.alive ha; exact low a o' e'
  have hC0 : h₀.get? (h₂.objs.size + 1) = none := by
    cases q : h₀.get? (h₂.objs.size + 1) with
    | none => rfl
    | some o' => have := r₂.hp.keep _ o' q; exact absurd (low _ _ this) (Nat.not_lt.mpr (Nat.le_succ _))
  let ec : Env := compEnvC scope cl (h₂.objs.size + 1) env
  have faC : ∀ a, Fa ec a → a = h₂.objs.size + 1 ∨ (Fa env a ∧ a < h₂.objs.size) := by
    rintro a (rfl | ⟨y, hy⟩)
    · exact .inl rfl
    · have hy' := cl1 y a hy
      obtain ⟨o', v', e', _⟩ := r₂.fr.obj y a hy'
      exact .inr ⟨.inr ⟨y, hy'⟩, low a o' e'⟩
  have kdC : ∀ y, ec.kindOf y = (relS sc scope).names.lookup y := fun y => by
    show (relabel scope env).names.lookup y = _
    rw [scE]
  have kd1 : ∀ y, scope.names.lookup y = some .free → (relS sc scope).names.lookup y = some .cell := fun y h => by
    have h1 := hfree _ (mem_of_lookup h) rfl
    have h2 : (sc.kind == ScopeKind.function) = true := by rw [he.fn]; rfl
    have h3 : (sc.names.lookup y == some NameKind.cell) = true := by rw [h1]; rfl
    refine (relS_lookup h).trans ?_
    rw [h2, h3]; rfl
  have kd2 : ∀ y, (relS sc scope).names.lookup y = some .cell → scope.names.lookup y = some .free := fun y h => by
    cases q : scope.names.lookup y with
    | none => rw [show (relS sc scope).names.lookup y = none from relS_none q] at h; cases h
    | some kd =>
      rw [show (relS sc scope).names.lookup y = _ from relS_lookup q] at h
      by_cases hf : kd = .free
      · rw [hf]
      · have h1 : (kd == NameKind.free) = false := by simpa using hf
        rw [h1] at h
        simp only [Bool.false_and, Bool.false_eq_true, if_false] at h
        cases h
        exact absurd rfl (hcell _ (mem_of_lookup q))
  have relC : Rel prog w h₀ A.frames ec (ρ₁ ++ [h₂.objs.size]) ⟨loC scope σ₂.lo, σ₂.H ++ [.list []]⟩ h₄ := by
    refine ⟨rH, ⟨⟨_, hns, fun y u h1 h2 => ?_⟩, fun y u h1 h2 => ?_, fun y a hy => ?_, fun a ha => ?_, fun y a hy => ?_, fun y z a hy hz => r₂.fr.inj y z a (cl1 y a hy) (cl1 z a hz)⟩, r₂.fo.keeps fun b o es ep e d hb _ _ => ⟨fun hm => ?_, o, es, ep, k24 b o e, d⟩, r₂.tp⟩
    rotate_left 5
    · rcases List.mem_append.mp hm with q | q
      · exact hb q
      · have := low b o e; rw [List.mem_singleton.mp q] at this; exact absurd this (Nat.lt_irrefl _)
    · have h2' : (if scope.names.lookup y = some .free then σ₂.lo y else none) = some u := h2
      by_cases hf : scope.names.lookup y = some .free
      · rw [kdC, kd1 y hf] at h1; cases h1
      · rw [if_neg hf] at h2'; cases h2'
    · have h2' : (if scope.names.lookup y = some .free then σ₂.lo y else none) = some u := h2
      by_cases hf : scope.names.lookup y = some .free
      · rw [if_pos hf] at h2'
        have hk' : env.kindOf y = some .cell := by unfold Env.kindOf; rw [he.scope]; exact hfree _ (mem_of_lookup hf) rfl
        obtain ⟨a, c', o', q1, q2, q3, q4⟩ := r₂.fr.cel y u (.inl hk') h2'
        obtain ⟨b, hb⟩ := Option.isSome_iff_exists.mp (cl2 y hf)
        have := cl1 y b hb
        rw [q1] at this; cases this
        exact ⟨a, c', o', hb, k24 a o' q2, q3, q4.ext (Ext.snoc _ _)⟩
      · rw [if_neg hf] at h2'; cases h2'
    · obtain ⟨o', v', q1, q2⟩ := r₂.fr.obj y a (cl1 y a hy)
      exact ⟨o', v', k24 a o' q1, q2⟩
    · rcases faC a ha with rfl | ⟨hf, hl⟩
      · refine ⟨fun hm => ?_, hC0⟩
        rcases List.mem_append.mp hm with q | q
        · have h1 : h₂.objs.size + 1 < h₂.objs.size := hρlt _ q
          exact absurd h1 (by omega)
        · have := List.mem_singleton.mp q
          exact absurd this (Nat.succ_ne_self _)
      · refine ⟨fun hm => ?_, (r₂.fr.out a hf).2⟩
        rcases List.mem_append.mp hm with q | q
        · exact (r₂.fr.out a hf).1 q
        · rw [List.mem_singleton.mp q] at hl; exact absurd hl (Nat.lt_irrefl _)
    · obtain ⟨o', v', q1, q2⟩ := r₂.fr.obj y a (cl1 y a hy)
      exact Nat.ne_of_lt (Nat.lt_succ_of_lt (low a o' q1))
  have eokC : EOk (relS sc scope) ec := ⟨scE, he.globals, he.builtins, hkind, fun y hy => cl2 y (kd2 y hy)⟩
  have hIρ3 : I ∉ ρ₁ ++ [h₂.objs.size] := fun q => by
    rcases List.mem_append.mp q with q | q
    · exact hIρ q
    · rw [List.mem_singleton.mp q] at hI2; exact absurd hI2 (Nat.lt_irrefl _)
  have hIC : ¬ Fa ec I := fun q => by
    rcases faC I q with q | q
    · rw [q] at hI2; exact absurd hI2 (Nat.not_lt.mpr (Nat.le_succ _))
    · exact hIf q.1
  have loop : codeAny (model prog w) A (.compLoop (.ListComp elt [⟨.Name x px, iter, ifs, 0⟩] scope pos) 0 (.ref I) (.ref h₂.objs.size) ec)
      (compPost (model prog w) A E none Q (.ref h₂.objs.size) (h₂.objs.size + 1)) { s with heap := h₄, toks := tk₁ } := by
    refine (let Inv : Nat → Shared → Prop := (fun m s' => ∃ h' tk ρ' σ' j o', s' = { s with heap := h', toks := tk } ∧ Rel prog w h₀ A.frames ec ρ' σ' h' ∧
      Step (fun a => Fa ec a ∨ a = I) (ρ₁ ++ [h₂.objs.size]) ρ' h₄ h' ∧ dCompL nx x dt de σ₂.H.length m j σ' = some ((), σ₃) ∧ h'.get? I = some o' ∧ P ρ' j o' ∧ I ∉ ρ' ∧
      (∀ y, scope.names.lookup y = some .free → σ'.lo y = σ₂.lo y)); codeAny_compLoop_tests Inv ?_ n
      ⟨h₄, tk₁, _, _, 0, o, rfl, relC, .refl .., e4, k24 I o hI, it.ext _ _ _ _ (Ext.snoc _ _) hP, hIρ3, fun y hy => by show (if scope.names.lookup y = some .free then σ₂.lo y else none) = _; rw [if_pos hy]⟩)
    intro m s' hz0
    refine (let Gol : Prop := _; (?_ : Gol))
    obtain ⟨h', tk, ρ', σ', j, o', hz1, hz2⟩ := hz0
    unfold Gol; clear Gol
    subst hz1
    refine (let Gol : Prop := _; (?_ : Gol))
    obtain ⟨r', st', hj, hI', hP', hIρ', hlo⟩ := hz2
    unfold Gol; clear Gol
    cases m with
    | zero => exact (fail_some (σ := σ') hj).elim
    | succ m =>
      have up : ∀ h₅ : Heap, Heap.ExtBut I h' h₅ → Rel prog w h₀ A.frames ec ρ' σ' h₅ := fun h₅ hs =>
        ⟨⟨fun b o e => hs b o (fun q => by rw [q, hI0] at e; cases e) (r'.hp.keep b o e), r'.hp.len, r'.hp.nd, fun i o a e1 e2 => (r'.hp.objs i o a e1 e2).at fun o e => hs a o (fun q => hIρ' (q ▸ List.mem_iff_getElem?.mpr ⟨i, e2⟩)) e, r'.hp.own, r'.hp.mods, r'.hp.big⟩,
          r'.fr.keeps (.refl _) (fun a ha => (r'.fr.out a ha).1) fun b o hb e => ⟨o, hs b o (fun q => hIC (q ▸ hb)) e, .refl _⟩, r'.fo.butN hs (r₁.fo.noFr hI1), r'.tp⟩
      have stI : ∀ h₅ : Heap, Heap.ExtBut I h' h₅ → Step (fun a => Fa ec a ∨ a = I) (ρ₁ ++ [h₂.objs.size]) ρ' h₄ h₅ := fun h₅ hs =>
        st'.trans ⟨.refl _, fun b o e hb hq => ⟨o, hs b o (fun q => hq (.inr q)) e, .refl _⟩, fun a h1 h2 => absurd h1 h2⟩ fun a hq => hq.elim (fun hq => (r'.fr.out a hq).1) fun hq => hq ▸ hIρ'
      unfold dCompL at hj
      refine (let Gol : Prop := _; (?_ : Gol))
      cases hn : nx j σ'.H with
      | none => rw [hn] at hj; cases hj
      | some q =>
        rw [hn] at hj
        cases q with
        | none =>
          cases hj
          refine it.done _ ρ' _ j o' _ _ r'.hp hI' hP' hn fun h₅ tk₅ hs => ?_
          have r5 := up h₅ hs
          have st5 := stI h₅ hs
          obtain ⟨m5, n5, _⟩ := r5.fr.ns
          refine ⟨m5, n5, fun h₆ hs6 => ?_⟩
          have C6 : ∀ b o, b ≠ h₂.objs.size + 1 → h₅.get? b = some o → h₆.get? b = some o := fun b o hb e => hs6.extBut b o hb e
          -- what stood ahead of the comprehension
          have keep6 : ∀ b o, h₂.get? b = some o → b ∉ ρ₁ → ¬ (∃ y, cl.lookup y = some b) → b ≠ I → ∃ o', h₆.get? b = some o' ∧ Kp o o' := fun b o e hb hq hbI => by
            have hl := low b o e
            have hh := st5.keep b o (k24 b o e) (fun hm => ?_) fun hF => ?_
            · obtain ⟨o', e', kp⟩ := hh
              exact ⟨o', C6 b o' (Nat.ne_of_lt (Nat.lt_succ_of_lt hl)) e', kp⟩
            · rcases List.mem_append.mp hm with q | q
              · exact hb q
              · rw [List.mem_singleton.mp q] at hl; exact absurd hl (Nat.lt_irrefl _)
            · rcases hF with (hF | hF) | hF
              · rw [hF] at hl; exact absurd hl (by show ¬ (h₂.objs.size + 1 < h₂.objs.size); omega)
              · exact hq hF
              · exact hbI hF
          have out6 : ∀ a, Fa env a → a ∉ ρ' := fun a ha hm => by
            obtain ⟨o6, e6⟩ := r₂.fr.alive ha
            have hl := low a o6 e6
            by_cases h3 : a ∈ ρ₁ ++ [h₂.objs.size]
            · rcases List.mem_append.mp h3 with q | q
              · exact (r₂.fr.out a ha).1 q
              · rw [List.mem_singleton.mp q] at hl; exact absurd hl (Nat.lt_irrefl _)
            · have := st5.fresh a hm h3
              rw [k24 a o6 e6] at this; cases this
          have hLC : ∀ y, cl.lookup y = some env.locals → False := fun y hy => r₂.fr.ne y _ (cl1 y _ hy) rfl
          have neI : ∀ a, Fa env a → a ≠ I := fun a ha q => hIf (q ▸ ha)
          have rel6 : Rel prog w h₀ A.frames env ρ' ⟨σ₂.lo, σ₃.H⟩ h₆ := by
            have hCn : ∀ a ∈ ρ', a ≠ h₂.objs.size + 1 := fun a ha q => (r5.fr.out a (.inl q)).1 ha
            refine ⟨⟨fun b o e => C6 b o (fun q => by rw [q, hC0] at e; cases e) (r5.hp.keep b o e), r5.hp.len, r5.hp.nd, fun i o a e1 e2 => (r5.hp.objs i o a e1 e2).at fun o e => C6 a o (hCn a (List.mem_iff_getElem?.mpr ⟨i, e2⟩)) e, r5.hp.own, r5.hp.mods, r5.hp.big⟩,
              ⟨?_, fun y u h1 h2 => ?_, fun y a hy => ?_, fun a ha => ⟨out6 a ha, (r₂.fr.out a ha).2⟩, r₂.fr.ne, r₂.fr.inj⟩, r5.fo.butN hs6.extBut (r₂.fo.noFr (hD _ (Nat.le_succ _))), r₂.tp⟩
            · obtain ⟨m2, n2, l2⟩ := r₂.fr.ns
              refine ⟨m2, Kp.ns n2 fun o e => keep6 _ o e (r₂.fr.out _ (.inl rfl)).1 (fun ⟨y, hy⟩ => hLC y hy) (neI _ (.inl rfl)), fun y u h1 h2 => ?_⟩
              obtain ⟨c', q1, q2⟩ := l2 y u h1 h2
              exact ⟨c', q1, q2.ext ((Ext.snoc _ _).trans st5.ext)⟩
            · obtain ⟨a, c', o'', q1, q2, q3, q4⟩ := r₂.fr.cel y u h1 h2
              by_cases hc : ∃ z, cl.lookup z = some a
              · obtain ⟨z, hz⟩ := hc
                have hzy := r₂.fr.inj z y a (cl1 z a hz) q1
                subst hzy
                have hfz := cl3 z a hz
                have hl' : σ₃.lo z = some u := (hlo z hfz).trans h2
                obtain ⟨a', c2, o2, p1, p2, p3, p4⟩ := r5.fr.cel z u (.inl ((kdC z).trans (kd1 z hfz))) hl'
                have p1' : cl.lookup z = some a' := p1
                rw [hz] at p1'; cases p1'
                exact ⟨a, c2, o2, q1, C6 a o2 (Nat.ne_of_lt (Nat.lt_succ_of_lt (low a o'' q2))) p2, p3, p4⟩
              · obtain ⟨o4, p5, p6⟩ := keep6 a o'' q2 (r₂.fr.out a (.inr ⟨y, q1⟩)).1 hc (neI a (.inr ⟨y, q1⟩))
                exact ⟨a, c', o4, q1, p5, p6.data.trans q3, q4.ext ((Ext.snoc _ _).trans st5.ext)⟩
            · obtain ⟨o'', v'', q1, q2⟩ := r₂.fr.obj y a hy
              by_cases hc : ∃ z, cl.lookup z = some a
              · obtain ⟨z, hz⟩ := hc
                obtain ⟨o3, v3, p1, p2⟩ := r5.fr.obj z a hz
                exact ⟨o3, v3, C6 a o3 (Nat.ne_of_lt (Nat.lt_succ_of_lt (low a o'' q1))) p1, p2⟩
              · obtain ⟨o4, p5, p6⟩ := keep6 a o'' q1 (r₂.fr.out a (.inr ⟨y, hy⟩)).1 hc (neI a (.inr ⟨y, hy⟩))
                exact ⟨o4, v'', p5, p6.data.trans q2⟩
          refine kk _ h₆ tk₅ ρ' ⟨h₂.objs.size, ?_, rfl⟩ rel6 (rel6.trans st₁ ⟨(Ext.snoc _ _).trans st5.ext, fun b o e hb hq => keep6 b o (hk b o e) hb (fun ⟨y, hy⟩ => hq (.inr ⟨y, cl1 y b hy⟩)) (fun q => by rw [q, hI1] at e; cases e), fun a hm hn => ?_⟩)
          · refine st5.ext _ _ ?_
            rw [← r₂.hp.len, List.getElem?_append_right (Nat.le_refl _)]
            simp
          · have free : h₂.get? a = none → h₁.get? a = none := fun h => by
              cases q : h₁.get? a with
              | none => rfl
              | some o'' => rw [hk a o'' q] at h; cases h
            by_cases h3 : a ∈ ρ₁ ++ [h₂.objs.size]
            · rcases List.mem_append.mp h3 with q | q
              · exact absurd q hn
              · exact free (hD a (Nat.le_of_eq (List.mem_singleton.mp q).symm))
            · have h4 := st5.fresh a hm h3
              refine free ?_
              cases q : h₂.get? a with
              | none => rfl
              | some o'' => rw [k24 a o'' q] at h4; cases h4
        | some v =>
          obtain ⟨_, σ₄, e5, hj⟩ := bind_some hj
          obtain ⟨b, σ₅, e6, hj⟩ := bind_some hj
          have hxl : (relS sc scope).names.lookup x = some .local := relS_lookup hx
          refine it.item _ ρ' σ'.H j o' v _ _ r'.hp hI' hP' hn fun c h₅ tk₅ o₅ hv hI5 hP5 hs => ?_
          refine bnd_name (k := k) (hd := true) (.inl hxl) ha eokC hv _ ρ' σ' (.refl _) (up h₅ hs) () σ₄ e5 _ _ fun _ h₆ tk₆ ρ₆ _ r₆ st₆ => ?_
          have a2 := stI h₅ hs
          have n6 : I ∉ ρ₆ := fun q => by have := st₆.fresh I q hIρ'; rw [hI5] at this; cases this
          have a3 := a2.trans (st₆.weak fun a q => .inl q) fun a q => q.elim (fun q => (r₆.fr.out a q).1) fun q => q ▸ n6
          have I6 := st₆.exact hI5 hIρ' hIC (it.nodict _ _ _ hP5)
          have lo4 : ∀ y, scope.names.lookup y = some .free → σ₄.lo y = σ₂.lo y := fun y hy => by
            have : σ₄ = ⟨put σ'.lo x v, σ'.H⟩ := by cases e5; rfl
            rw [this]
            have hne : y ≠ x := fun q => by rw [q, hx] at hy; cases hy
            show (if y = x then some v else σ'.lo y) = _
            rw [if_neg hne]; exact hlo y hy
          refine ht A _ ρ₆ ha eokC _ ρ₆ σ₄ (.refl _) r₆ b σ₅ e6 _ _ fun ok h₇ tk₇ ρ₇ R₇ r₇ st₇ => ?_
          have n7 : I ∉ ρ₇ := fun q => by have := st₇.fresh I q n6; rw [I6] at this; cases this
          have a4 := a3.trans (st₇.weak fun a q => .inl q) fun a q => q.elim (fun q => (r₇.fr.out a q).1) fun q => q ▸ n7
          have I7 := st₇.exact I6 n6 hIC (it.nodict _ _ _ hP5)
          have P7 := it.ext _ _ _ _ (st₆.ext.trans st₇.ext) hP5
          have lo5 : ∀ y, scope.names.lookup y = some .free → σ₅.lo y = σ₂.lo y := fun y hy => by rw [lt _ _ _ e6]; exact lo4 y hy
          have R₇' : ok = b := R₇
          subst R₇'
          cases ok with
          | false =>
            exact ⟨m, Nat.lt_succ_self _, h₇, tk₇, ρ₇, σ₅, j + 1, o₅, rfl, r₇, a4, hj, I7, P7, n7, lo5⟩
          | true =>
            obtain ⟨y, σ₆, e7, hj⟩ := bind_some hj
            obtain ⟨_, σ₇, e8, hj⟩ := bind_some hj
            refine hel A _ ρ₇ ha eokC _ ρ₇ σ₅ (.refl _) r₇ y σ₆ e7 _ _ fun cy h₈ tk₈ ρ₈ R₈ r₈ st₈ => ?_
            have n8 : I ∉ ρ₈ := fun q => by have := st₈.fresh I q n7; rw [I7] at this; cases this
            have a5 := a4.trans (st₈.weak fun a q => .inl q) fun a q => q.elim (fun q => (r₈.fr.out a q).1) fun q => q ▸ n8
            have I8 := st₈.exact I7 n7 hIC (it.nodict _ _ _ hP5)
            have P8 := it.ext _ _ _ _ st₈.ext P7
            obtain ⟨vs, q1, q2, rfl⟩ := push_some e8
            have hDρ : ρ₈[σ₂.H.length]? = some h₂.objs.size := a5.ext _ _ (by rw [← r₂.hp.len, List.getElem?_append_right (Nat.le_refl _)]; simp)
            obtain ⟨a', its, nn, p1, p2, p3, p4⟩ := listAt r₈.hp q1
            rw [hDρ] at p1; cases p1
            have pl : h₈.PlainList h₂.objs.size its := ⟨nn, p2⟩
            refine wpAny_list_append_plain (hsz := by rw [p4]; have : (1000 : Nat) ≤ sizeLine := by decide
                                                      omega) pl fun h₉ hl9 hs9 => ?_
            have r9 := r₈.upd hDρ hs9.extBut (append_obj r₈.hp q1 hDρ R₈ pl hl9)
            have hDm : h₂.objs.size ∈ ρ₈ := List.mem_iff_getElem?.mpr ⟨_, hDρ⟩
            have a6 := a5.trans (Step.upd (P := fun a => Fa ec a ∨ a = I) hDm hs9.extBut) fun a q => q.elim (fun q => (r₈.fr.out a q).1) fun q => q ▸ n8
            refine ⟨m, Nat.lt_succ_self _, h₉, tk₈, ρ₈, _, j + 1, o₅, rfl, r9, a6, hj, hs9.extBut I o₅ (fun q => n8 (q ▸ hDm)) I8, P8, n8, fun z hz => ?_⟩
            show σ₆.lo z = _
            rw [le _ _ _ e7]; exact lo5 z hz
  exact codeAny_compStart_list loop (it.self _ _ _ _ _ _ (k24 I o hI) hP loop)
end
end Mine
end

section
open PySem PySem.W PyProof.Rows
set_option autoImplicit false
set_option linter.unusedVariables false
namespace Mine

noncomputable def hasK {V : Type} (kvs : List (Int × V)) (k : Int) : Bool := kvs.any fun kv => kv.1 = k
noncomputable def lookA {V : Type} (kvs : List (Int × V)) (k : Int) : Option V := (kvs.find? fun kv => kv.1 = k).map (·.2)
noncomputable def storA {V : Type} (kvs : List (Int × V)) (k : Int) (v : V) : List (Int × V) := if hasK kvs k then kvs.map (fun kv => if kv.1 = k then (kv.1, v) else kv) else kvs ++ [(k, v)]
noncomputable def withA {V : Type} (kvs : List (Int × V)) (k : Int) : List (Int × V) := kvs.filter fun kv => decide (kv.1 ≠ k)

section
variable {prog : Program} {w : World} {h₀ : Heap} {hd : Bool} {k : Nat} {sc : Scope} {K : Frag} {A : Around} {E : Value → Shared → Prop} {s : Shared}

/-- a store into a dict, its count of new keys told -/
theorem dictSet_at {d : Addr} {kvs : List (Int × Value)} {ep : Nat} {i : Int} {key v : Value} {Q : Unit → Shared → Prop} (hkey : (intKind prog w).is i key = true) (hm : s.heap.DictAt (intKind prog w) d kvs ep)
    (hQ : ∀ h', h'.DictAt (intKind prog w) d (stored kvs i v) (if hasK kvs i then ep else ep + 1) → Heap.SameBut d s.heap h' → Q () { s with heap := h', toks := s.toks + 1 })
    (hsz : kvs.length ≤ sizeLine) : wpAny (model prog w) A (dictSet d key v) Q E s := by
  obtain ⟨o, es, ho, hc, hdat, hk, hp, hn⟩ := hm
  have hes : es.size ≤ sizeLine := by
    have e1 := hp.length
    have e2 : es.toList.length = es.size := by simp
    omega
  have hidx : (es.findIdx? fun e => (intKind prog w).is i e.key) = kvs.findIdx? fun kv => decide (kv.1 = i) := by
    rw [← hp.findIdx i]; obtain ⟨l⟩ := es; simp
  unfold dictSet
  try with_reducible refine wpAny_holding ?_
  refine wpAny_bind ((intKind prog w).pyHash hkey ?_)
  unfold dictSetHashed
  try with_reducible refine wpAny_holding ?_
  refine wpAny_bind (wpAny_dictFind_of (s := { s with toks := s.toks + 1 }) hkey ho hdat hk ?_)
  cases hi : es.findIdx? fun e => (intKind prog w).is i e.key with
  | some j =>
    have hany : hasK kvs i = true := any_of_findIdx_some (hidx ▸ hi)
    refine wpAny_bind (wpAny_rule (wpAny_bind (wpAny_updateDict (s := { s with toks := s.toks + 1 }) ho hdat (wpAny_point (hQ _ ?_ (Heap.SameBut.update ..))))))
    rw [if_pos hany]
    refine ⟨_, _, Heap.get?_update_self _ ho (Obj.isFreed_of_dict (Obj.data_mapDict hdat _)), hc.mapDict _, Obj.data_mapDict hdat _, hk.modify _ _, ?_, ?_⟩
    · have hst : stored kvs i v = kvs.map fun kv => if kv.1 = i then (kv.1, v) else kv := if_pos hany
      rw [hst]
      have hl : (es.toList.findIdx? fun e => (intKind prog w).is i e.key) = some j := by rw [← hi]; obtain ⟨l⟩ := es; simp
      have := hp.modify hn hl v
      obtain ⟨l⟩ := es
      simpa using this
    · have hst : stored kvs i v = kvs.map fun kv => if kv.1 = i then (kv.1, v) else kv := if_pos hany
      rw [hst, keys_map_store]; exact hn
  | none =>
    have hnot : i ∉ kvs.map (·.1) := not_mem_of_findIdx_none (hidx ▸ hi)
    have hany : ¬ hasK kvs i = true := by
      unfold hasK
      rw [List.any_eq_true]
      rintro ⟨kv, hkv, he⟩
      exact hnot (List.mem_map.mpr ⟨kv, hkv, of_decide_eq_true he⟩)
    refine wpAny_bind (wpAny_rule (wpAny_updateDictKeys (hz := hes) (s := { s with toks := s.toks + 1 }) ho hdat (hQ _ ?_ (Heap.SameBut.update ..))))
    rw [if_neg hany]
    have hst : stored kvs i v = kvs ++ [(i, v)] := if_neg hany
    refine ⟨_, _, Heap.get?_update_self _ ho (Obj.isFreed_of_dict (Obj.data_mapDictKeys hdat _)), hc.mapDictKeys _, Obj.data_mapDictKeys hdat _, hk.push hkey _, ?_, ?_⟩
    · rw [hst]
      have := hp.append hkey ((intKind prog w).hash i) v
      obtain ⟨l⟩ := es
      simpa using this
    · rw [hst, List.map_append, List.nodup_append]
      refine ⟨hn, by simp, ?_⟩
      intro a ha b hb
      simp only [List.map_cons, List.map_nil, List.mem_singleton] at hb
      subst hb
      exact fun e => hnot (e ▸ ha)
theorem setItem_at {d : Addr} {kvs : List (Int × Value)} {ep : Nat} {i : Int} {key v : Value} {Q : Unit → Shared → Prop} (hkey : (intKind prog w).is i key = true) (hm : s.heap.DictAt (intKind prog w) d kvs ep)
    (hQ : ∀ h', h'.DictAt (intKind prog w) d (stored kvs i v) (if hasK kvs i then ep else ep + 1) → Heap.SameBut d s.heap h' → Q () { s with heap := h', toks := s.toks + 1 })
    (hsz : kvs.length ≤ sizeLine) : wpAny (model prog w) A (setItem (.ref d) key v) Q E s := by
  have hT := hm.dictOf.typeIs
  unfold setItem
  try with_reducible refine wpAny_holding ?_
  refine wpAny_bind (wpAny_sequenceKey hT (by decide) ?_)
  try clear Gol
  refine wpAny_bind (wpAny_callSpecial?_slot (name := Str.ofString "__setitem__") hT slot_dict_setitem
    (wpAny_call_entry slot_dict_setitem hT entry_dict_setitem ?_ (args_dict_setitem _ _ _)))
  try (unfold Gol; clear Gol)
  show wpAny _ _ (Builtin.Dict.notOrdered "__setitem__" ⟨[.ref d, key, v], []⟩ >>= _) _ _ s
  refine wpAny_bind (wpAny_notOrdered_dict hT ?_)
  try clear Gol
  try (unfold Gol; clear Gol)
  show wpAny _ _ (dictSet d key v >>= _) _ _ s
  exact wpAny_bind (dictSet_at hkey hm (fun h' hm' hs' => wpAny_pure ⟨.none, rfl, wpAny_pure (hQ h' hm' hs')⟩) hsz)

theorem VPs.look {ρ : Rho} {vs : List (Int × AVal)} {cs : List (Int × Value)} (h : VPs ρ vs cs) (i : Int) :
    (lookA vs i = none ∧ valueAt cs i = none) ∨ ∃ v c, lookA vs i = some v ∧ valueAt cs i = some c ∧ VR ρ v c := by
  induction h with
  | nil => exact .inl ⟨rfl, rfl⟩
  | @cons j v c vs cs hv _ ih =>
    by_cases e : j = i
    · subst e
      exact .inr ⟨v, c, by simp [lookA], by simp [valueAt], hv⟩
    · have h1 : lookA ((j, v) :: vs) i = lookA vs i := by simp [lookA, e]
      have h2 : valueAt ((j, c) :: cs) i = valueAt cs i := by simp [valueAt, e]
      rw [h1, h2]; exact ih
theorem VPs.has {ρ : Rho} {vs : List (Int × AVal)} {cs : List (Int × Value)} (h : VPs ρ vs cs) (i : Int) : hasK vs i = hasK cs i := by
  induction h with
  | nil => rfl
  | cons _ _ ih => unfold hasK at ih ⊢; simp only [List.any_cons]; rw [ih]
theorem VPs.stor {ρ : Rho} {vs : List (Int × AVal)} {cs : List (Int × Value)} (h : VPs ρ vs cs) (i : Int) {v : AVal} {c : Value} (hv : VR ρ v c) : VPs ρ (storA vs i v) (stored cs i c) := by
  have hm : ∀ {vs : List (Int × AVal)} {cs : List (Int × Value)}, VPs ρ vs cs → VPs ρ (vs.map fun kv => if kv.1 = i then (kv.1, v) else kv) (cs.map fun kv => if kv.1 = i then (kv.1, c) else kv) := by
    intro vs cs h
    induction h with
    | nil => exact .nil
    | @cons j u d vs cs hu _ ih =>
      simp only [List.map_cons]
      by_cases e : j = i
      · simp only [e, if_true]; exact .cons hv ih
      · simp only [e, if_false]; exact .cons hu ih
  have ha : ∀ {vs : List (Int × AVal)} {cs : List (Int × Value)}, VPs ρ vs cs → VPs ρ (vs ++ [(i, v)]) (cs ++ [(i, c)]) := by
    intro vs cs h
    induction h with
    | nil => exact .cons hv .nil
    | cons a _ ih => exact .cons a ih
  unfold storA
  by_cases e : hasK vs i = true
  · rw [if_pos e]
    have hst : stored cs i c = cs.map fun kv => if kv.1 = i then (kv.1, c) else kv := if_pos (by rw [h.has i] at e; exact e)
    rw [hst]; exact hm h
  · rw [if_neg e]
    have hst : stored cs i c = cs ++ [(i, c)] := if_neg (by rw [h.has i] at e; exact e)
    rw [hst]; exact ha h
theorem VPs.wout {ρ : Rho} {vs : List (Int × AVal)} {cs : List (Int × Value)} (h : VPs ρ vs cs) (i : Int) : VPs ρ (withA vs i) (without cs i) := by
  unfold withA without
  induction h with
  | nil => exact .nil
  | @cons j u d vs cs hu _ ih =>
    simp only [List.filter_cons]
    by_cases e : j = i
    · simp only [e, ne_eq, not_true_eq_false, decide_false, Bool.false_eq_true, if_false]; exact ih
    · simp only [ne_eq, e, not_false_eq_true, decide_true, if_true]; exact .cons hu ih

/-! both kinds of dict, read -/
noncomputable def asDictR (v : AVal) : M (Nat × List (Int × AVal)) := match v with
  | .ref i => do
    match ← getO i with
    | .dict _ vs => pure (i, vs)
    | .ddict vs => pure (i, vs)
    | _ => fail
  | _ => fail
theorem dictR {v : AVal} {σ σ' : St} {i : Nat} {vs : List (Int × AVal)} (h : asDictR v σ = some ((i, vs), σ')) {ρ : Rho} {hp : Heap} (r : RelH prog w h₀ ρ σ.H hp) :
    v = .ref i ∧ σ' = σ ∧ ∃ a cvs, ρ[i]? = some a ∧ hp.DictOf (intKind prog w) a cvs ∧ VPs ρ vs cvs := by
  cases v with
  | ref j =>
    refine  bind_k h fun o σ₁ e1 e2 => ?_
    obtain ⟨e3, rfl⟩ := getO_some e1
    cases o with
    | dict ep us =>
      obtain ⟨e4, rfl⟩ := pure_some e2; cases e4
      refine  dictAt_k r e3 fun a cvs q1 q2 q3 => ?_
      exact ⟨rfl, rfl, a, cvs, q1, q2.dictOf, q3⟩
    | ddict us =>
      obtain ⟨e4, rfl⟩ := pure_some e2; cases e4
      refine  getK_k r e3 fun a q1 hy2 => ?_
      obtain ⟨cvs, q2, q3⟩ := hy2
      exact ⟨rfl, rfl, a, cvs, q1, q2, q3⟩
    | _ => exact (fail_some (σ := σ₁) e2).elim
  | _ => exact (fail_some (σ := σ) h).elim
theorem isInt_int (i : Int) (t : Tok) : (intKind prog w).is i (.int i t) = true := by simp [intKind, Value.isInt]

/-! subscripts -/
noncomputable def subA (o i : AVal) : M AVal := match o, i with
  | .ref a, .int i => do
    match ← getO a with
    | .list vs => if 0 ≤ i ∧ i < 2 ^ 62 then lift vs[i.toNat]? else if i = -1 ∧ 0 < vs.length ∧ vs.length ≤ 1000 then lift vs[vs.length - 1]? else fail
    | .dict _ kvs => lift (lookA kvs i)
    | .ddict kvs => lift (lookA kvs i)
    | _ => fail
  | _, _ => fail
theorem lift_some {α : Type} {o : Option α} {σ σ' : St} {v : α} (h : lift o σ = some (v, σ')) : o = some v ∧ σ' = σ := by
  unfold lift at h
  obtain ⟨a, h1, h2⟩ := Option.map_eq_some_iff.mp h
  cases h2; exact ⟨h1, rfl⟩
end
end Mine
end

section
open PySem PySem.W PyProof.Rows
set_option autoImplicit false
set_option linter.unusedVariables false
namespace Mine
section
variable {prog : Program} {w : World} {h₀ : Heap} {hd : Bool} {k : Nat} {sc : Scope} {K : Frag}

theorem size_1000 : (1000 : Nat) ≤ sizeLine := by decide

theorem e_sub {value slice : Expr} {pos : Pos} {dv di : M AVal} (hv : SimE prog w h₀ hd k sc value dv) (hi : SimE prog w h₀ hd k sc slice di)
    (hs : ∀ o i, subscripted slice false o i = operate [o, i] (getItem o i) := by intro _ _; with_unfolding_all rfl) :
    SimE prog w h₀ hd k sc (.Subscript value slice pos) (do let o ← dv; let i ← di; subA o i) := by
  intro A env ρ₀ ha he s ρ σ e₀ rr v σ' hd' Q E kk
  refine  bind_k hd' fun o σ₁ e1 hd' => ?_
  refine  bind_k hd' fun i σ₂ e2 e3 => ?_
  refine Subscript_ (hv A env ρ₀ ha he s ρ σ e₀ rr o σ₁ e1 _ _ fun co h₁ tk₁ ρ₁ R₁ r₁ st₁ => ?_)
  try clear Gol
  refine hi A env ρ₀ ha he _ ρ₁ σ₁ (e₀.trans st₁.ext) r₁ i σ₂ e2 _ _ fun ci h₂ tk₂ ρ₂ R₂ r₂ st₂ => ?_
  try clear Gol
  refine (let Gol : Prop := _; (?_ : Gol))
  have R₁ := R₁.ext st₂.ext
  have fin : ∀ c tk, σ' = σ₂ → VR ρ₂ v c → Q c { s with heap := h₂, toks := tk } := fun c tk hσ hc => by subst hσ; exact kk c h₂ tk ρ₂ hc r₂ (r₂.trans st₁ st₂)
  cases o with
  | ref a =>
    cases i with
    | int i =>
      obtain ⟨t, rfl⟩ := R₂
      refine  bind_k e3 fun ob σ₃ e4 e5 => ?_
      obtain ⟨e6, rfl⟩ := getO_some e4
      cases ob with
      | list vs =>
        refine  listAt_k r₂.hp e6 fun ad its n q1 q2 q3 q4 => ?_
        try (unfold Gol; clear Gol)
        rw [R₁.eq_ref q1]
        have hL : h₂.IsList ad its := IsL.isList q2
        simp only at e5
        split at e5
        · rename_i hc
          obtain ⟨e7, rfl⟩ := lift_some e5
          obtain ⟨c, e8, e9⟩ := q3.get e7
          exact tail_any (s := { s with heap := h₂, toks := tk₂ }) hL.typeIs slot_list_getitem.lookup (wpAny_getItem_list hL hc.1 (by have := hc.2; omega) (by simpa using e8) (fin c _ rfl e9)) (hs _ _)
        · split at e5
          · rename_i hc
            obtain ⟨rfl, hc1, hc2⟩ := hc
            obtain ⟨e7, rfl⟩ := lift_some e5
            obtain ⟨c, e8, e9⟩ := q3.get e7
            have hidx : ((-1 : Int) + its.size).toNat = vs.length - 1 := by rw [q4]; omega
            exact tail_any (s := { s with heap := h₂, toks := tk₂ }) hL.typeIs slot_list_getitem.lookup (wpAny_getItem_list_neg hL (by decide) (by rw [q4]; omega) (by decide) (by rw [hidx]; simpa using e8) (fin c _ rfl e9)) (hs _ _)
          · exact (fail_some (σ := σ₃) e5).elim
      | dict ep kvs =>
        refine  dictAt_k r₂.hp e6 fun ad cvs q1 q2 q3 => ?_
        try (unfold Gol; clear Gol)
        rw [R₁.eq_ref q1]
        obtain ⟨e7, rfl⟩ := lift_some e5
        rcases q3.look i with ⟨q5, _⟩ | ⟨u, c, q5, q6, q7⟩
        · rw [q5] at e7; cases e7
        · rw [q5] at e7; cases e7
          exact tail_any (s := { s with heap := h₂, toks := tk₂ }) q2.dictOf.typeIs slot_dict_getitem.lookup (wpAny_getItem_of (isInt_int i t) q2.dictOf.mapOf q6 (fin c _ rfl q7)) (hs _ _)
      | ddict kvs =>
        refine  getK_k r₂.hp e6 fun ad q1 hy4 => ?_
        obtain ⟨cvs, q2, q3⟩ := hy4
        try (unfold Gol; clear Gol)
        rw [R₁.eq_ref q1]
        obtain ⟨e7, rfl⟩ := lift_some e5
        rcases q3.look i with ⟨q5, _⟩ | ⟨u, c, q5, q6, q7⟩
        · rw [q5] at e7; cases e7
        · rw [q5] at e7; cases e7
          exact tail_any (s := { s with heap := h₂, toks := tk₂ }) q2.typeIs slot_dict_getitem.lookup (wpAny_getItem_of (isInt_int i t) q2.mapOf q6 (fin c _ rfl q7)) (hs _ _)
      | _ => exact (fail_some (σ := σ₃) e5).elim
    | _ => exact (fail_some (σ := σ₂) e3).elim
  | _ => cases i <;> exact (fail_some (σ := σ₂) e3).elim

/-! stores into dicts -/
noncomputable def setA (o i v : AVal) : M Unit := match o, i with
  | .ref a, .int i => do
    match ← getO a with
    | .dict ep kvs => if kvs.length ≤ 1000 then setO a (.dict (if hasK kvs i then ep else ep + 1) (storA kvs i v)) else fail
    | .ddict kvs => if kvs.length ≤ 1000 then setO a (.ddict (storA kvs i v)) else fail
    | _ => fail
  | _, _ => fail
theorem set_item {A : Around} {env : Env} {ρ₀ : Rho} {o i v : AVal} {co ci cv : Value} (ho : VR ρ₀ o co) (hi : VR ρ₀ i ci) (hv : VR ρ₀ v cv) : Sim prog w h₀ A env ρ₀ (setItem co ci cv) (fun _ _ _ => True) (setA o i v) := by
  intro s ρ σ e r u σ' hd' Q E kk
  refine (let Gol : Prop := _; (?_ : Gol))
  cases o with
  | ref a =>
    cases i with
    | int i =>
      obtain ⟨t, rfl⟩ := hi
      refine  bind_k hd' fun ob σ₃ e4 e5 => ?_
      obtain ⟨e6, rfl⟩ := getO_some e4
      cases ob with
      | dict ep kvs =>
        simp only at e5
        split at e5
        · rename_i hl
          cases e5
          refine  dictAt_k r.hp e6 fun ad cvs q1 q2 q3 => ?_
          try (unfold Gol; clear Gol)
          rw [(ho.ext e).eq_ref q1]
          refine setItem_at (isInt_int i t) q2 (fun h' hm' hs' => kk () h' _ ρ trivial (r.upd q1 hs'.extBut ⟨_, ?_, q3.stor i (hv.ext e)⟩) (.upd (List.mem_iff_getElem?.mpr ⟨_, q1⟩) hs'.extBut)) (by rw [q3.length]; exact Nat.le_trans hl size_1000)
          try (unfold Gol; clear Gol)
          rw [q3.has i]; exact hm'
        · exact (fail_some (σ := σ₃) e5).elim
      | ddict kvs =>
        simp only at e5
        split at e5
        · rename_i hl
          cases e5
          refine  getK_k r.hp e6 fun ad q1 hy6 => ?_
          obtain ⟨cvs, q2, q3⟩ := hy6
          try (unfold Gol; clear Gol)
          rw [(ho.ext e).eq_ref q1]
          exact wpAny_setItem_pairs (hsz := by rw [q3.length]; exact Nat.le_trans hl size_1000) (isInt_int i t) q2 fun h' hm' hs' => kk () h' _ ρ trivial (r.upd q1 hs'.extBut ⟨_, hm', q3.stor i (hv.ext e)⟩) (.upd (List.mem_iff_getElem?.mpr ⟨_, q1⟩) hs'.extBut)
        · exact (fail_some (σ := σ₃) e5).elim
      | _ => exact (fail_some (σ := σ₃) e5).elim
    | _ => exact (fail_some (σ := σ) hd').elim
  | _ => cases i <;> exact (fail_some (σ := σ) hd').elim
theorem s_setItem {value o i : Expr} {pos' pos : Pos} {dv do_ di : M AVal} (hv : SimE prog w h₀ hd k sc value dv) (ho : SimE prog w h₀ hd k sc o do_) (hi : SimE prog w h₀ hd k sc i di)
    (hs : ∀ env, swapsWith value (some (.Subscript o i pos')) pos.line env = pure false := by intro _; rfl) :
    SimS prog w h₀ hd k sc (.Assign [.Subscript o i pos'] value pos) (do let v ← dv; let o ← do_; let i ← di; setA o i v; pure .next) := by
  intro A env ρ₀ ha he s ρ σ e₀ rr f σ' hd' Q E kk
  refine  bind_k hd' fun v σ₁ e1 hd' => ?_
  refine  bind_k hd' fun ov σ₂ e2 hd' => ?_
  refine  bind_k hd' fun iv σ₃ e3 hd' => ?_
  refine  bind_k hd' fun _ σ₄ e4 e5 => ?_
  obtain ⟨rfl, rfl⟩ := pure_some e5
  refine wpAny_Assign_Subscript (hv A env ρ₀ ha he s ρ σ e₀ rr v σ₁ e1 _ _ fun cv h₁ tk₁ ρ₁ R₁ r₁ st₁ => ?_) (hs env)
  try clear Gol
  refine ho A env ρ₀ ha he _ ρ₁ σ₁ (e₀.trans st₁.ext) r₁ ov σ₂ e2 _ _ fun co h₂ tk₂ ρ₂ R₂ r₂ st₂ => ?_
  try clear Gol
  refine hi A env ρ₀ ha he _ ρ₂ σ₂ ((e₀.trans st₁.ext).trans st₂.ext) r₂ iv σ₃ e3 _ _ fun ci h₃ tk₃ ρ₃ R₃ r₃ st₃ => ?_
  try clear Gol
  refine set_item (R₂.ext st₃.ext) R₃ ((R₁.ext st₂.ext).ext st₃.ext) _ ρ₃ σ₃ (.refl _) r₃ () σ' e4 _ _ fun _ h₄ tk₄ ρ₄ _ r₄ st₄ => ?_
  try clear Gol
  exact kk .next h₄ tk₄ ρ₄ rfl r₄ (r₄.trans (r₃.trans (r₂.trans st₁ st₂) st₃) st₄)

/-! displays -/
theorem new_obj {A : Around} {env : Env} {ρ : Rho} {σ : St} {s : Shared} (r : Rel prog w h₀ A.frames env ρ σ s.heap) {o : Obj} {ao : AObj} (ho : ObjAt prog w (ρ ++ [s.heap.objs.size]) ao (s.heap.push o) s.heap.objs.size) :
    VR (ρ ++ [s.heap.objs.size]) (.ref σ.H.length) (.ref s.heap.objs.size) ∧ Rel prog w h₀ A.frames env (ρ ++ [s.heap.objs.size]) ⟨σ.lo, σ.H ++ [ao]⟩ (s.heap.push o) ∧ Step (Fa env) ρ (ρ ++ [s.heap.objs.size]) s.heap (s.heap.push o) := by
  have hk : ∀ b o', s.heap.get? b = some o' → (s.heap.push o).get? b = some o' := fun b o' e => Heap.get?_push_of_some _ e
  refine ⟨⟨_, ?_, rfl⟩, r.grow hk (Nat.le_refl _) ho, .grow hk (free_of_ge (Nat.le_refl _))⟩
  rw [← r.hp.len, List.getElem?_append_right (Nat.le_refl _)]; simp
theorem new_obj_k {A : Around} {env : Env} {ρ : Rho} {σ : St} {s : Shared} {G : Prop} (r : Rel prog w h₀ A.frames env ρ σ s.heap) {o : Obj} {ao : AObj} (ho : ObjAt prog w (ρ ++ [s.heap.objs.size]) ao (s.heap.push o) s.heap.objs.size)
    (k : VR (ρ ++ [s.heap.objs.size]) (.ref σ.H.length) (.ref s.heap.objs.size) → Rel prog w h₀ A.frames env (ρ ++ [s.heap.objs.size]) ⟨σ.lo, σ.H ++ [ao]⟩ (s.heap.push o) → Step (Fa env) ρ (ρ ++ [s.heap.objs.size]) s.heap (s.heap.push o) → G) : G := by
  obtain ⟨x, y, z⟩ := new_obj r ho
  exact k x y z
theorem newO_some {o : AObj} {σ σ' : St} {v : AVal} (h : newO o σ = some (v, σ')) : v = .ref σ.H.length ∧ σ' = ⟨σ.lo, σ.H ++ [o]⟩ := by
  unfold newO at h; cases h; exact ⟨rfl, rfl⟩
theorem e_list {es : List Expr} {pos : Pos} {d : M (List AVal)} (h : SimA prog w h₀ hd k sc es d) : SimE prog w h₀ hd k sc (.List es pos) (do let vs ← d; if vs.length ≤ 1000 then newO (.list vs) else fail) := by
  intro A env ρ₀ ha he s ρ σ e₀ rr v σ' hd' Q E kk
  refine (let Gol : Prop := _; (?_ : Gol))
  refine  bind_k hd' fun vs σ₁ e1 e2 => ?_
  split at e2
  · rename_i hl
    obtain ⟨rfl, rfl⟩ := newO_some e2
    refine List_ (h A env ρ₀ pos ha he s ρ σ e₀ rr vs σ₁ e1 _ _ fun cs h₁ tk₁ ρ₁ R₁ r₁ st₁ => ?_)
    try clear Gol
    refine wpAny_newObj_type ?_ (by show cs.toArray.size ≤ sizeLine; simp; rw [R₁.length]; exact Nat.le_trans hl size_1000)
    refine  new_obj_k (s := { s with heap := h₁, toks := tk₁ }) r₁ (o := { cls := .type "list", data := .seq cs.toArray }) (ao := .list vs) ⟨cs.toArray, ⟨0, Heap.get?_push_size _ rfl⟩, by simpa using R₁.ext (Ext.snoc _ _)⟩ fun a b c => ?_
    exact kk _ _ tk₁ _ a b (b.trans st₁ c)
  · exact (fail_some (σ := σ₁) e2).elim
theorem e_dict0 {pos : Pos} : SimE prog w h₀ hd k sc (.Dict [] [] pos) (newO (.dict 0 [])) := by
  intro A env ρ₀ ha he s ρ σ e₀ rr v σ' hd' Q E kk
  obtain ⟨rfl, rfl⟩ := newO_some hd'
  refine wpAny_Dict_empty ?_
  try clear Gol
  refine  new_obj_k rr (o := { cls := .type "dict", data := .dict #[] }) (ao := .dict 0 []) ⟨[], ⟨_, #[], Heap.get?_push_size _ rfl, ⟨rfl, rfl, rfl⟩, rfl, fun _ he => by simp at he, .nil, List.nodup_nil⟩, .nil⟩ fun a b c => ?_
  exact kk _ _ s.toks _ a b c

/-! lists joined -/
theorem op_addL : OpSim prog w h₀ hd k .Add (fun a b => do
    let (_, xs) ← asList a
    let (_, ys) ← asList b
    if xs.length + ys.length ≤ 1000 then newO (.list (xs ++ ys)) else fail) := by
  intro A env ρ a b ca cb hA ha hb s ρ' σ e r v σ' hd' Q E kk
  refine (let Gol : Prop := _; (?_ : Gol))
  refine  bind_k hd' fun hy12p σ₁ e1 hd2 => ?_
  obtain ⟨i, xs⟩ := hy12p
  obtain ⟨rfl, q1, rfl⟩ := asList_some e1
  refine  bind_k hd2 fun hy13p σ₂ e2 e3 => ?_
  obtain ⟨j, ys⟩ := hy13p
  obtain ⟨rfl, q2, rfl⟩ := asList_some e2
  simp only at e3
  split at e3
  · rename_i hl
    obtain ⟨rfl, rfl⟩ := newO_some e3
    refine  listAt_k r.hp q1 fun a1 its1 n1 p1 p2 p3 p4 => ?_
    refine  listAt_k r.hp q2 fun a2 its2 n2 p5 p6 p7 p8 => ?_
    try (unfold Gol; clear Gol)
    rw [(ha.ext e).eq_ref p1, (hb.ext e).eq_ref p5]
    refine PySem.P.add_list p2 p6 ?_ (by rw [p4, p8]; exact Nat.le_trans hl size_1000)
    refine  new_obj_k r (o := { cls := .type "list", data := .seq (its1 ++ its2) }) (ao := .list (xs ++ ys)) ⟨its1 ++ its2, ⟨0, Heap.get?_push_size _ rfl⟩, by rw [Array.toList_append]; exact (p3.append p7).ext (Ext.snoc _ _)⟩ fun x y z => ?_
    exact kk _ _ s.toks _ x y z
  · exact (fail_some (σ := σ₂) e3).elim

/-! in -/
noncomputable def intsOf : List AVal → Option (List Int)
  | [] => some []
  | .int i :: r => (intsOf r).map (i :: ·)
  | _ => none
noncomputable def inA (v o : AVal) : M Bool := match v, o with
  | .int i, .ref a => do
    match ← getO a with
    | .list vs => do
      let ns ← lift (intsOf vs)
      pure (ns.any (· == i))
    | .set ks => pure (decide (i ∈ ks))
    | .dict _ kvs => pure (lookA kvs i).isSome
    | .ddict kvs => pure (lookA kvs i).isSome
    | _ => fail
  | _, _ => fail
theorem ints_are {ρ : Rho} : ∀ {vs : List AVal} {cs : List Value} {ns : List Int}, VRs ρ vs cs → intsOf vs = some ns → IntsAre cs ns
  | _, _, _, .nil, h => by cases h; exact .nil
  | .int i :: r, _, ns, .cons hv hr, h => by
    obtain ⟨t, rfl⟩ := hv
    obtain ⟨ms, e1, rfl⟩ := Option.map_eq_some_iff.mp h
    exact .cons i t (ints_are hr e1)
  | .bool _ :: r, _, ns, .cons hv hr, h => by cases h
  | .none :: r, _, ns, .cons hv hr, h => by cases h
  | .ref _ :: r, _, ns, .cons hv hr, h => by cases h
  | .stat _ :: r, _, ns, .cons hv hr, h => by cases h
theorem look_isSome {ρ : Rho} {vs : List (Int × AVal)} {cs : List (Int × Value)} (h : VPs ρ vs cs) (i : Int) : (valueAt cs i).isSome = (lookA vs i).isSome := by
  rcases h.look i with ⟨a, b⟩ | ⟨u, c, a, b, _⟩ <;> rw [a, b] <;> rfl
theorem cmp_in : CmpSim prog w h₀ hd k .In inA := by
  intro A env ρ a b ca cb hA ha hb s ρ' σ e r v σ' hd' Q E kk
  refine (let Gol : Prop := _; (?_ : Gol))
  cases a with
  | int i =>
    obtain ⟨t, rfl⟩ := ha
    cases b with
    | ref j =>
      refine  bind_k hd' fun o σ₁ e1 e2 => ?_
      obtain ⟨e3, rfl⟩ := getO_some e1
      have hb := hb.ext e
      cases o with
      | list vs =>
        refine  bind_k e2 fun ns σ₂ e4 e5 => ?_
        obtain ⟨e6, rfl⟩ := lift_some e4
        obtain ⟨rfl, rfl⟩ := pure_some e5
        refine  listAt_k r.hp e3 fun a1 its1 n1 p1 p2 p3 p4 => ?_
        try (unfold Gol; clear Gol)
        rw [hb.eq_ref p1]
        exact in_list_ints (vs := its1.toList) (by simpa using IsL.isList p2) (ints_are p3 e6) (kk _ s.heap s.toks ρ' rfl r (.refl ..))
      | set ks =>
        obtain ⟨rfl, rfl⟩ := pure_some e2
        refine  getK_k r.hp e3 fun a1 p1 p2 => ?_
        try (unfold Gol; clear Gol)
        rw [hb.eq_ref p1]
        exact wpAny_inSet_of (isInt_int i t) rfl p2 (kk _ s.heap _ ρ' rfl r (.refl ..))
      | dict ep kvs =>
        obtain ⟨rfl, rfl⟩ := pure_some e2
        refine  dictAt_k r.hp e3 fun a1 cvs p1 p2 p3 => ?_
        try (unfold Gol; clear Gol)
        rw [hb.eq_ref p1]
        refine wpAny_in_of (isInt_int i t) (r.hp.mods a1 (List.mem_iff_getElem?.mpr ⟨j, p1⟩)) p2.dictOf.mapOf (kk _ s.heap _ ρ' ?_ r (.refl ..))
        try (unfold Gol; clear Gol)
        rw [look_isSome p3]
      | ddict kvs =>
        obtain ⟨rfl, rfl⟩ := pure_some e2
        refine  getK_k r.hp e3 fun a1 p1 hy17 => ?_
        obtain ⟨cvs, p2, p3⟩ := hy17
        try (unfold Gol; clear Gol)
        rw [hb.eq_ref p1]
        refine wpAny_in_of (isInt_int i t) (r.hp.mods a1 (List.mem_iff_getElem?.mpr ⟨j, p1⟩)) p2.mapOf (kk _ s.heap _ ρ' ?_ r (.refl ..))
        try (unfold Gol; clear Gol)
        rw [look_isSome p3]
      | _ => exact (fail_some (σ := σ₁) e2).elim
    | _ => exact (fail_some (σ := σ) hd').elim
  | _ => cases b <;> exact (fail_some (σ := σ) hd').elim
noncomputable def notInA (v o : AVal) : M Bool := match v, o with
  | .int i, .ref a => do
    match ← getO a with
    | .list vs => do
      let ns ← lift (intsOf vs)
      pure (!ns.any (· == i))
    | _ => fail
  | _, _ => fail
theorem cmp_notIn : CmpSim prog w h₀ hd k .NotIn notInA := by
  intro A env ρ a b ca cb hA ha hb s ρ' σ e r v σ' hd' Q E kk
  refine (let Gol : Prop := _; (?_ : Gol))
  cases a with
  | int i =>
    obtain ⟨t, rfl⟩ := ha
    cases b with
    | ref j =>
      refine  bind_k hd' fun o σ₁ e1 e2 => ?_
      obtain ⟨e3, rfl⟩ := getO_some e1
      have hb := hb.ext e
      cases o with
      | list vs =>
        refine  bind_k e2 fun ns σ₂ e4 e5 => ?_
        obtain ⟨e6, rfl⟩ := lift_some e4
        obtain ⟨rfl, rfl⟩ := pure_some e5
        refine  listAt_k r.hp e3 fun a1 its1 n1 p1 p2 p3 p4 => ?_
        try (unfold Gol; clear Gol)
        rw [hb.eq_ref p1]
        exact notin_list_ints (vs := its1.toList) (by simpa using IsL.isList p2) (ints_are p3 e6) (kk _ s.heap s.toks ρ' rfl r (.refl ..))
      | _ => exact (fail_some (σ := σ₁) e2).elim
    | _ => exact (fail_some (σ := σ) hd').elim
  | _ => cases b <;> exact (fail_some (σ := σ) hd').elim

/-! minus -/
theorem e_neg {x : Expr} {pos : Pos} {d : M AVal} (h : SimE prog w h₀ hd k sc x d) : SimE prog w h₀ hd k sc (.UnaryOp .USub x pos) (do match ← d with | .int i => pure (.int (-i)) | _ => fail) := by
  intro A env ρ₀ ha he s ρ σ e₀ rr v σ' hd' Q E kk
  refine  bind_k hd' fun u σ₁ e1 e2 => ?_
  refine wpAny_UnaryOp (h A env ρ₀ ha he s ρ σ e₀ rr u σ₁ e1 _ _ fun c h₁ tk₁ ρ₁ R₁ r₁ st₁ => ?_)
  try clear Gol
  refine (let Gol : Prop := _; (?_ : Gol))
  cases u with
  | int i =>
    obtain ⟨t, rfl⟩ := R₁
    obtain ⟨rfl, rfl⟩ := pure_some e2
    exact neg_int (kk _ h₁ _ ρ₁ ⟨_, rfl⟩ r₁ st₁)
  | _ => exact (fail_some (σ := σ₁) e2).elim
end
end Mine
end

section
open PySem PySem.W PyProof.Rows
set_option autoImplicit false
set_option linter.unusedVariables false
namespace Mine

noncomputable def kindT (T : String) : AObj → Bool
  | .list _ => T == "list"
  | .dict _ _ => T == "dict"
  | .ddict _ => T == "dict"
  | .set _ => T == "set"
  | _ => false
noncomputable def chkT (T : String) (v : AVal) : M Unit := match v with
  | .ref i => do
    let o ← getO i
    if kindT T o then pure () else fail
  | _ => fail

section
variable {prog : Program} {w : World} {h₀ : Heap} {hd : Bool} {k : Nat} {sc : Scope} {K : Frag}

theorem chkT_some {T : String} {v : AVal} {σ σ' : St} {u : Unit} (h : chkT T v σ = some (u, σ')) {ρ : Rho} {s : Shared} (r : RelH prog w h₀ ρ σ.H s.heap) {c : Value} (hv : VR ρ v c) :
    σ' = σ ∧ ∃ a, c = .ref a ∧ s.TypeIs (.ref a) T ∧ ∀ b, Value.ref a = .ref b → ∃ o, s.heap.get? b = some o ∧ o.dict = none := by
  cases v with
  | ref i =>
    refine  bind_k h fun o σ₁ e1 e2 => ?_
    obtain ⟨e3, rfl⟩ := getO_some e1
    split at e2
    · rename_i hk
      obtain ⟨_, rfl⟩ := pure_some e2
      refine ⟨rfl, ?_⟩
      cases o with
      | list vs =>
        have hT : T = "list" := by simpa [kindT] using hk
        subst hT
        refine  listAt_k r e3 fun a its n q1 q2 q3 q4 => ?_
        exact ⟨a, hv.eq_ref q1, ⟨_, q2, rfl⟩, fun b e => by cases e; exact ⟨_, q2, rfl⟩⟩
      | dict ep vs =>
        have hT : T = "dict" := by simpa [kindT] using hk
        subst hT
        refine  dictAt_k r e3 fun a cvs q1 q2 q3 => ?_
        exact ⟨a, hv.eq_ref q1, q2.dictOf.typeIs, q2.dictOf.mapOf.noDict⟩
      | ddict vs =>
        have hT : T = "dict" := by simpa [kindT] using hk
        subst hT
        refine  getK_k r e3 fun a q1 hy2 => ?_
        obtain ⟨cvs, q2, q3⟩ := hy2
        exact ⟨a, hv.eq_ref q1, q2.typeIs, q2.mapOf.noDict⟩
      | set vs =>
        have hT : T = "set" := by simpa [kindT] using hk
        subst hT
        refine  getK_k r e3 fun a q1 q2 => ?_
        exact ⟨a, hv.eq_ref q1, Heap.SetOf.typeIs q2, Heap.SetOf.noDict q2⟩
      | _ => cases hk
    · exact (fail_some (σ := σ₁) e2).elim
  | _ => exact (fail_some (σ := σ) h).elim

theorem m_bi {o : Expr} {name : Str} {apos pos : Pos} {es : List Expr} {T id : String} {pl : Env → Sem Bool} {do_ : M AVal} {dargs : M (List AVal)} {D : List AVal → M AVal}
    (ho : SimE prog w h₀ hd k sc o do_) (hg : SimG prog w h₀ hd k sc es dargs) (hD : BiSim prog w h₀ hd k (.builtin id) D)
    (pa : PlainAttrs T) (slot : Slot T name id) (hty : typeOf (.builtin id) = pure (.type "method_descriptor"))
    (hp : ∀ env, (backTo pos (starEach es env)).any (·.1) = false := by intro _; rfl)
    (hc : ∀ env, eval (.Call (.Attribute o name apos) es [] pos) env = (do
      let ov ← eval o env
      standAt apos.atName
      let (f, first) ← holding [ov] (getMethod ov name (pl env))
      callWith pos f first (backTo pos (starEach es env)) []) := by intro _; rfl) :
    SimE prog w h₀ hd k sc (.Call (.Attribute o name apos) es [] pos) (do let ov ← do_; chkT T ov; let vs ← dargs; D (ov :: vs)) := by
  intro A env ρ₀ ha he s ρ σ e₀ rr v σ' hd' Q E kk
  refine  bind_k hd' fun ov σ₁ e1 hd' => ?_
  refine  bind_k hd' fun _ σ₂ e2 hd' => ?_
  refine  bind_k hd' fun vs σ₃ e3 e4 => ?_
  refine MethodCall_ (ho A env ρ₀ ha he s ρ σ e₀ rr ov σ₁ e1 _ _ fun co h₁ tk₁ ρ₁ R₁ r₁ st₁ => ?_) (hc env)
  obtain ⟨rfl, a, hca, hT, hnd⟩ := chkT_some (s := { s with heap := h₁, toks := tk₁ }) e2 r₁.hp R₁
  subst hca
  refine getMethod_builtin hT pa slot hty hnd ?_
  try clear Gol
  refine Calls.callWith_builtin (hp env) (hg A env ρ₀ pos (.builtin id) ha he _ ρ₁ σ₂ (e₀.trans st₁.ext) r₁ vs σ₃ e3 _ _ fun ar h₂ tk₂ ρ₂ R₂ r₂ st₂ => ?_)
  try clear Gol
  refine (let Gol : Prop := _; (?_ : Gol))
  obtain ⟨cs, rfl, hcs⟩ := R₂
  exact hD A env ρ₂ (ov :: vs) (.ref a :: cs) ha (.cons (R₁.ext st₂.ext) hcs) _ ρ₂ σ₃ (.refl _) r₂ v σ' e4 _ _ fun c h₃ tk₃ ρ₃ hv r₃ st₃ => kk c h₃ tk₃ ρ₃ hv r₃ (r₃.trans (r₂.trans st₁ st₂) st₃)

/-! list methods -/
noncomputable def appendD : List AVal → M AVal
  | [.ref i, v] => do push i v; pure .none
  | _ => fail
theorem bi_append : BiSim prog w h₀ hd k (.builtin "list.append") appendD := by
  intro A env ρ₀ vs cs ha hvs s ρ σ e rr v σ' hd' Q E kk
  refine (let Gol : Prop := _; (?_ : Gol))
  obtain ⟨u0, u, hq⟩ := args2 (F := fun vs => appendD vs σ) hd' rfl (fun a => by cases a <;> rfl) (fun a b c l => by cases a <;> rfl)
  subst hq
  obtain ⟨i, hq⟩ := argRef (F := fun x => appendD [x, u] σ) hd' (fun _ => rfl) (fun _ => rfl) rfl (fun _ => rfl)
  subst hq
  refine  bind_k hd' fun _ σ₁ e1 e2 => ?_
  clear hd'
  obtain ⟨rfl, rfl⟩ := pure_some e2
  obtain ⟨us, q1, q2, rfl⟩ := push_some e1
  obtain ⟨c, d, rfl, hc, hdv⟩ := hvs.two
  refine  listAt_k rr.hp q1 fun a its n p1 p2 p3 p4 => ?_
  unfold Gol; clear Gol
  rw [(hc.ext e).eq_ref p1]
  have pl : s.heap.PlainList a its := ⟨n, p2⟩
  exact wpAny_list_append_plain (hsz := by rw [p4]; exact Nat.le_trans q2 size_1000) pl fun h' hl hs => kk _ h' s.toks ρ rfl (rr.upd p1 hs.extBut (append_obj rr.hp q1 p1 (hdv.ext e) pl hl)) (.upd (List.mem_iff_getElem?.mpr ⟨_, p1⟩) hs.extBut)
noncomputable def extendD : List AVal → M AVal
  | [.ref i, .ref j] => do
    match ← getO i with
    | .list xs => match ← getO j with
      | .tuple ys => if xs.length + ys.length ≤ 1000 then (do setO i (.list (xs ++ ys)); pure .none) else fail
      | _ => fail
    | _ => fail
  | _ => fail
theorem bi_extend : BiSim prog w h₀ hd k (.builtin "list.extend") extendD := by
  intro A env ρ₀ vs cs ha hvs s ρ σ e rr v σ' hd' Q E kk
  refine (let Gol : Prop := _; (?_ : Gol))
  obtain ⟨u0, u, hq⟩ := args2 (F := fun vs => extendD vs σ) hd' rfl (fun a => by cases a <;> rfl) (fun a b c l => by cases a <;> cases b <;> rfl)
  subst hq
  obtain ⟨i, hq⟩ := argRef (F := fun x => extendD [x, u] σ) hd' (fun _ => rfl) (fun _ => rfl) rfl (fun _ => rfl)
  subst hq
  obtain ⟨j, hq⟩ := argRef (F := fun x => extendD [.ref i, x] σ) hd' (fun _ => rfl) (fun _ => rfl) rfl (fun _ => rfl)
  subst hq
  obtain ⟨xs, q1, hd1⟩ := getL_inv (f := fun xs => do match ← getO j with | .tuple ys => (if xs.length + ys.length ≤ 1000 then (do setO i (.list (xs ++ ys)); pure AVal.none) else fail) | _ => fail) hd'
  clear hd'
  obtain ⟨ys, q2, hd2⟩ := getT_inv (f := fun ys => if xs.length + ys.length ≤ 1000 then (do setO i (.list (xs ++ ys)); pure AVal.none) else fail) hd1
  clear hd1
  obtain ⟨hl, hd3⟩ := ite_inv hd2
  clear hd2
  obtain ⟨rfl, rfl⟩ := set_inv hd3
  clear hd3
  obtain ⟨c, d, rfl, hc, hdv⟩ := hvs.two
  refine  listAt_k rr.hp q1 fun a its n p1 p2 p3 p4 => ?_
  refine  getK_k rr.hp q2 fun b p5 hy8 => ?_
  obtain ⟨its2, n2, p6, p7⟩ := hy8
  have p8 : its2.size = ys.length := by rw [← p7.length]; simp
  unfold Gol; clear Gol
  rw [(hc.ext e).eq_ref p1, (hdv.ext e).eq_ref p5]
  have hz := size_1000
  have hz2 : ¬(!its.isEmpty && Builtin.List.listTooLong (its.size + its2.size)) = true := by
    have : Builtin.List.listTooLong (its.size + its2.size) = false := by
      unfold Builtin.List.listTooLong
      rw [p4, p8]
      exact decide_eq_false (by omega)
    rw [this, Bool.and_false]; exact Bool.false_ne_true
  refine call_meets PySem.F.slot_list_extend ⟨_, p2, rfl⟩ PySem.F.entry_list_extend (PySem.F.args_list_extend_2 _ _) (PySem.AutoSeq1.list_extend_list_tuple_0 a its n b its2 n2 hz2 (by rw [p4]; omega) (by rw [p4, p8]; omega)) ⟨p2, p6, ?_⟩
  have hs : Heap.SameBut a s.heap (s.heap.update a (Obj.mapSeq fun x => x ++ its2)) := Heap.SameBut.update ..
  exact kk _ _ s.toks ρ rfl (rr.upd p1 hs.extBut ⟨_, ⟨_, IsL.update p2 fun x => x ++ its2⟩, by rw [Array.toList_append]; exact p3.append p7⟩) (.upd (List.mem_iff_getElem?.mpr ⟨_, p1⟩) hs.extBut)
noncomputable def clearD : List AVal → M AVal
  | [.ref i] => do
    match ← getO i with
    | .list xs => if xs.length ≤ 1000 then (do setO i (.list []); pure .none) else fail
    | _ => fail
  | _ => fail
theorem bi_clear : BiSim prog w h₀ hd k (.builtin "list.clear") clearD := by
  intro A env ρ₀ vs cs ha hvs s ρ σ e rr v σ' hd' Q E kk
  refine (let Gol : Prop := _; (?_ : Gol))
  obtain ⟨u, hq⟩ := args1 (F := fun vs => clearD vs σ) hd' rfl (fun a _ _ => by cases a <;> rfl)
  subst hq
  obtain ⟨i, hq⟩ := argRef (F := fun u => clearD [u] σ) hd' (fun _ => rfl) (fun _ => rfl) rfl (fun _ => rfl)
  subst hq
  obtain ⟨xs, q1, hd1⟩ := getL_inv (f := fun xs => if xs.length ≤ 1000 then (do setO i (.list []); pure AVal.none) else fail) hd'
  clear hd'
  obtain ⟨hl, hd2⟩ := ite_inv hd1
  clear hd1
  obtain ⟨rfl, rfl⟩ := set_inv hd2
  clear hd2
  obtain ⟨c, rfl, hc⟩ := hvs.one
  refine  listAt_k rr.hp q1 fun a its n p1 p2 p3 p4 => ?_
  unfold Gol; clear Gol
  rw [(hc.ext e).eq_ref p1]
  refine call_meets PySem.F.slot_list_clear ⟨_, p2, rfl⟩ PySem.F.entry_list_clear (PySem.F.args_list_clear_1 _) (PySem.AutoSeq1.list_clear_list_0 a its n (by rw [p4]; exact Nat.le_trans hl size_1000)) ⟨p2, ?_⟩
  have hs : Heap.SameBut a s.heap (s.heap.update a (Obj.mapSeq fun _ => #[])) := Heap.SameBut.update ..
  exact kk _ _ s.toks ρ rfl (rr.upd p1 hs.extBut ⟨_, ⟨_, IsL.update p2 fun _ => #[]⟩, .nil⟩) (.upd (List.mem_iff_getElem?.mpr ⟨_, p1⟩) hs.extBut)
noncomputable def popD : List AVal → M AVal
  | [.ref i] => do
    match ← getO i with
    | .list xs => if xs.length ≤ 1000 then (do let v ← lift xs[xs.length - 1]?; setO i (.list xs.dropLast); pure v) else fail
    | _ => fail
  | _ => fail
theorem VRs.dropLast {ρ : Rho} {vs : List AVal} {cs : List Value} (h : VRs ρ vs cs) : VRs ρ vs.dropLast cs.dropLast := by
  induction h with
  | nil => exact .nil
  | cons a hr ih =>
    cases hr with
    | nil => exact .nil
    | cons b hr' => exact .cons a ih
theorem bi_pop : BiSim prog w h₀ hd k (.builtin "list.pop") popD := by
  intro A env ρ₀ vs cs ha hvs s ρ σ e rr v σ' hd' Q E kk
  refine (let Gol : Prop := _; (?_ : Gol))
  obtain ⟨u, hq⟩ := args1 (F := fun vs => popD vs σ) hd' rfl (fun a _ _ => by cases a <;> rfl)
  subst hq
  obtain ⟨i, hq⟩ := argRef (F := fun u => popD [u] σ) hd' (fun _ => rfl) (fun _ => rfl) rfl (fun _ => rfl)
  subst hq
  obtain ⟨xs, q1, hd1⟩ := getL_inv (f := fun xs => if xs.length ≤ 1000 then (do let v ← lift xs[xs.length - 1]?; setO i (.list xs.dropLast); pure v) else fail) hd'
  clear hd'
  obtain ⟨hl, hd2⟩ := ite_inv hd1
  clear hd1
  refine  bind_k hd2 fun u σ₂ e2 hd3 => ?_
  obtain ⟨q2, rfl⟩ := lift_some e2
  clear hd2 e2
  obtain ⟨rfl, rfl⟩ := set_inv hd3
  clear hd3
  obtain ⟨c, rfl, hc⟩ := hvs.one
  refine  listAt_k rr.hp q1 fun a its n p1 p2 p3 p4 => ?_
  obtain ⟨cu, e5, e6⟩ := p3.get q2
  unfold Gol; clear Gol
  rw [(hc.ext e).eq_ref p1]
  have e7 : its[its.size - 1]? = some cu := by rw [p4]; simpa using e5
  refine call_meets PySem.F.slot_list_pop ⟨_, p2, rfl⟩ PySem.F.entry_list_pop (PySem.F.args_list_pop_1 _) (PySem.MeetsSeq.list_pop_last a its n cu e7 (by rw [p4]; exact Nat.le_trans hl size_1000)) ⟨p2, ?_⟩
  have hs : Heap.SameBut a s.heap (s.heap.update a (Obj.mapSeq fun xs => xs.eraseIdxIfInBounds (its.size - 1))) := Heap.SameBut.update ..
  have hlast : (its.eraseIdxIfInBounds (its.size - 1)).toList = its.toList.dropLast := by
    rcases Nat.eq_zero_or_pos its.size with h0 | h0
    · have : its = #[] := Array.eq_empty_of_size_eq_zero h0
      subst this; rfl
    · have hlt : its.size - 1 < its.size := by omega
      rw [Array.eraseIdxIfInBounds, dif_pos hlt, Array.toList_eraseIdx]
      have : its.size - 1 = its.toList.length - 1 := by simp
      rw [this, List.eraseIdx_length_sub_one]
  exact kk _ _ s.toks ρ e6 (rr.upd p1 hs.extBut ⟨_, ⟨_, IsL.update p2 fun xs => xs.eraseIdxIfInBounds (its.size - 1)⟩, by rw [hlast]; exact p3.dropLast⟩) (.upd (List.mem_iff_getElem?.mpr ⟨_, p1⟩) hs.extBut)

/-! dict methods -/
noncomputable def getD1 : List AVal → M AVal
  | [d, .int i] => do
    let (_, kvs) ← asDictR d
    pure ((lookA kvs i).getD .none)
  | [d, .int i, dflt] => do
    let (_, kvs) ← asDictR d
    pure ((lookA kvs i).getD dflt)
  | _ => fail
theorem getD1_some {vs : List AVal} {σ σ' : St} {v : AVal} (h : getD1 vs σ = some (v, σ')) : ∃ d i df rest, vs = d :: .int i :: rest ∧ (rest = [] ∧ df = .none ∨ rest = [df]) ∧ (do let (_, kvs) ← asDictR d; pure ((lookA kvs i).getD df) : M AVal) σ = some (v, σ') := by
  cases vs with
  | nil => exact (fail_some (σ := σ) h).elim
  | cons d l => cases l with
    | nil => exact (fail_some (σ := σ) h).elim
    | cons x l => cases l with
      | nil =>
        obtain ⟨i, hq⟩ := argInt (F := fun x => getD1 [d, x] σ) h (fun _ => rfl) (fun _ => rfl) rfl (fun _ => rfl)
        subst hq
        exact ⟨d, i, .none, [], rfl, .inl ⟨rfl, rfl⟩, h⟩
      | cons y l => cases l with
        | nil =>
          obtain ⟨i, hq⟩ := argInt (F := fun x => getD1 [d, x, y] σ) h (fun _ => rfl) (fun _ => rfl) rfl (fun _ => rfl)
          subst hq
          exact ⟨d, i, y, [y], rfl, .inr rfl, h⟩
        | cons z l => exact (fail_some (σ := σ) (show fail σ = some (v, σ') by rw [← h]; cases x <;> rfl)).elim
theorem bi_get : BiSim prog w h₀ hd k (.builtin "dict.get") getD1 := by
  intro A env ρ₀ vs cs ha hvs s ρ σ e rr v σ' hd' Q E kk
  refine (let Gol : Prop := _; (?_ : Gol))
  obtain ⟨dv, i, df, rest, hq, hr, hd1⟩ := getD1_some hd'
  clear hd'
  subst hq
  refine  bind_k hd1 fun p0 σ₁ e1 e2 => ?_
  clear hd1
  obtain ⟨j, kvs⟩ := p0
  obtain ⟨rfl, rfl, a, cvs, q1, q2, q3⟩ := dictR e1 rr.hp
  obtain ⟨rfl, rfl⟩ := pure_some e2
  rcases hr with ⟨rfl, rfl⟩ | rfl
  · obtain ⟨c, d, rfl, hc, t, rfl⟩ := hvs.two
    unfold Gol; clear Gol
    rw [(hc.ext e).eq_ref q1]
    refine call_meetsIn PySem.F.slot_dict_get q2.typeIs PySem.F.entry_dict_get (PySem.F.args_dict_get_2 _ _) (meets_dict_get (intKind prog w) a (isInt_int i t) (rr.hp.mods a (List.mem_iff_getElem?.mpr ⟨j, q1⟩))) ⟨_, q2.mapOf, kk _ s.heap _ ρ ?_ rr (.refl ..)⟩
    rcases q3.look i with ⟨h1, h2⟩ | ⟨u, c', h1, h2, h3⟩
    · rw [h1, h2]; exact rfl
    · rw [h1, h2]; exact h3
  · obtain ⟨c, d, f, rfl, hc, ⟨t, rfl⟩, hf⟩ := hvs.three
    unfold Gol; clear Gol
    rw [(hc.ext e).eq_ref q1]
    refine call_meetsIn PySem.F.slot_dict_get q2.typeIs PySem.F.entry_dict_get (PySem.F.args_dict_get_3 _ _ _) (meets_dict_get_default (intKind prog w) a (isInt_int i t) (rr.hp.mods a (List.mem_iff_getElem?.mpr ⟨j, q1⟩)) f) ⟨_, q2.mapOf, kk _ s.heap _ ρ ?_ rr (.refl ..)⟩
    rcases q3.look i with ⟨h1, h2⟩ | ⟨u, c', h1, h2, h3⟩
    · rw [h1, h2]; exact hf.ext e
    · rw [h1, h2]; exact h3
noncomputable def itemsD : List AVal → M AVal
  | [d] => do
    let (i, _, _) ← asDict d
    newO (.items i)
  | _ => fail
noncomputable def valuesD : List AVal → M AVal
  | [d] => do
    let (i, _, _) ← asDict d
    newO (.values i)
  | _ => fail
theorem bi_items : BiSim prog w h₀ hd k (.builtin "dict.items") itemsD := by
  intro A env ρ₀ vs cs ha hvs s ρ σ e rr v σ' hd' Q E kk
  refine (let Gol : Prop := _; (?_ : Gol))
  obtain ⟨u, hq⟩ := args1 (F := fun vs => itemsD vs σ) hd' rfl (fun _ _ _ => rfl)
  subst hq
  refine  bind_k hd' fun hy10p σ₁ e1 e2 => ?_
  obtain ⟨j, ep, kvs⟩ := hy10p
  clear hd'
  obtain ⟨rfl, e3, rfl⟩ := asDict_some e1
  obtain ⟨rfl, rfl⟩ := newO_some e2
  obtain ⟨c, rfl, hc⟩ := hvs.one
  refine  dictAt_k rr.hp e3 fun a cvs q1 q2 q3 => ?_
  unfold Gol; clear Gol
  rw [(hc.ext e).eq_ref q1]
  refine  new_obj_k rr (o := { cls := .type "dict_items", data := .fields #[.ref a] }) (ao := .items j) ⟨a, Ext.snoc _ _ _ _ q1, _, Heap.get?_push_size _ rfl, rfl, rfl⟩ fun x y z => ?_
  exact call_meetsIn PySem.F.slot_dict_items q2.dictOf.typeIs PySem.F.entry_dict_items (PySem.F.args_dict_items_1 _) (meets_dict_items (intKind prog w) a (rr.hp.mods a (List.mem_iff_getElem?.mpr ⟨j, q1⟩))) ⟨⟨_, q2.dictOf⟩, kk _ _ s.toks _ x y z⟩
theorem bi_values : BiSim prog w h₀ hd k (.builtin "dict.values") valuesD := by
  intro A env ρ₀ vs cs ha hvs s ρ σ e rr v σ' hd' Q E kk
  refine (let Gol : Prop := _; (?_ : Gol))
  obtain ⟨u, hq⟩ := args1 (F := fun vs => valuesD vs σ) hd' rfl (fun _ _ _ => rfl)
  subst hq
  refine  bind_k hd' fun hy11p σ₁ e1 e2 => ?_
  obtain ⟨j, ep, kvs⟩ := hy11p
  clear hd'
  obtain ⟨rfl, e3, rfl⟩ := asDict_some e1
  obtain ⟨rfl, rfl⟩ := newO_some e2
  obtain ⟨c, rfl, hc⟩ := hvs.one
  refine  dictAt_k rr.hp e3 fun a cvs q1 q2 q3 => ?_
  unfold Gol; clear Gol
  rw [(hc.ext e).eq_ref q1]
  refine  new_obj_k rr (o := { cls := .type "dict_values", data := .fields #[.ref a] }) (ao := .values j) ⟨a, Ext.snoc _ _ _ _ q1, _, Heap.get?_push_size _ rfl, rfl, rfl⟩ fun x y z => ?_
  exact call_meetsIn PySem.F.slot_dict_values q2.dictOf.typeIs PySem.F.entry_dict_values (PySem.F.args_dict_values_1 _) (meets_dict_values (intKind prog w) a (rr.hp.mods a (List.mem_iff_getElem?.mpr ⟨j, q1⟩))) ⟨⟨_, q2.dictOf⟩, kk _ _ s.toks _ x y z⟩
noncomputable def addD : List AVal → M AVal
  | [.ref i, .int x] => do
    match ← getO i with
    | .set ks => if ks.length ≤ 1000 then (do setO i (.set (if x ∈ ks then ks else ks ++ [x])); pure .none) else fail
    | _ => fail
  | _ => fail
theorem bi_setAdd : BiSim prog w h₀ hd k (.builtin "set.add") addD := by
  intro A env ρ₀ vs cs ha hvs s ρ σ e rr v σ' hd' Q E kk
  refine (let Gol : Prop := _; (?_ : Gol))
  obtain ⟨u0, u, hq⟩ := args2 (F := fun vs => addD vs σ) hd' rfl (fun a => by cases a <;> rfl) (fun a b c l => by cases a <;> cases b <;> rfl)
  subst hq
  obtain ⟨i, hq⟩ := argRef (F := fun x => addD [x, u] σ) hd' (fun _ => rfl) (fun _ => rfl) rfl (fun _ => rfl)
  subst hq
  obtain ⟨x, hq⟩ := argInt (F := fun x => addD [.ref i, x] σ) hd' (fun _ => rfl) (fun _ => rfl) rfl (fun _ => rfl)
  subst hq
  obtain ⟨ks, q1, hd1⟩ := getS_inv (f := fun ks => if ks.length ≤ 1000 then (do setO i (.set (if x ∈ ks then ks else ks ++ [x])); pure AVal.none) else fail) hd'
  clear hd'
  obtain ⟨hl, hd2⟩ := ite_inv hd1
  clear hd1
  obtain ⟨rfl, rfl⟩ := set_inv hd2
  clear hd2
  obtain ⟨c, d, rfl, hc, t, rfl⟩ := hvs.two
  refine  getK_k rr.hp q1 fun a p1 p2 => ?_
  unfold Gol; clear Gol
  rw [(hc.ext e).eq_ref p1]
  refine call_set_add (isInt_int x t) rfl p2 (by have : scanBound = 4096 := rfl; omega) fun h' hs hS => kk _ h' _ ρ rfl (rr.upd p1 hs.extBut ?_) (.upd (List.mem_iff_getElem?.mpr ⟨_, p1⟩) hs.extBut)
  show h'.SetOf (intKind prog w) a (fun k' => decide (k' ∈ (if x ∈ ks then ks else ks ++ [x]))) (if x ∈ ks then ks else ks ++ [x]).length
  by_cases hx : x ∈ ks
  · simp only [hx, if_true, decide_true] at hS ⊢
    have : (fun k' => decide (k' ∈ ks) || decide (k' = x)) = fun k' => decide (k' ∈ ks) := by
      funext k'
      by_cases hk' : k' = x
      · subst hk'; simp [hx]
      · simp [hk']
    rw [this] at hS; exact hS
  · simp only [hx, if_false, decide_false, Bool.false_eq_true, List.length_append, List.length_singleton] at hS ⊢
    have : (fun k' => decide (k' ∈ ks) || decide (k' = x)) = fun k' => decide (k' ∈ ks ++ [x]) := by
      funext k'
      simp
    rw [this] at hS; exact hS
end
end Mine
end

section
open PySem PySem.W PyProof.Rows
set_option autoImplicit false
set_option linter.unusedVariables false
set_option maxRecDepth 100000
namespace Mine
section
variable {prog : Program} {w : World} {h₀ : Heap} {hd : Bool} {k : Nat} {sc : Scope} {K : Frag}

theorem new_at {A : Around} {env : Env} {ρ : Rho} {σ : St} {s : Shared} (r : Rel prog w h₀ A.frames env ρ σ s.heap) {h' : Heap} {a : Addr} (hk : ∀ b o', s.heap.get? b = some o' → h'.get? b = some o') (hn : s.heap.get? a = none) (hmo : (a == sysModules) = false) {ao : AObj} (ho : ObjAt prog w (ρ ++ [a]) ao h' a) :
    VR (ρ ++ [a]) (.ref σ.H.length) (.ref a) ∧ Rel prog w h₀ A.frames env (ρ ++ [a]) ⟨σ.lo, σ.H ++ [ao]⟩ h' ∧ Step (Fa env) ρ (ρ ++ [a]) s.heap h' := by
  refine ⟨⟨_, ?_, rfl⟩, r.heap (.grow hk hn) (r.hp.grow2 hk hn hmo ho), .grow hk hn⟩
  rw [← r.hp.len, List.getElem?_append_right (Nat.le_refl _)]; simp

/-! list(xs), tuple(xs), set(), range(..), bool(xs) -/
noncomputable def listD : List AVal → M AVal
  | [v] => do
    let (_, xs) ← asList v
    if xs.length ≤ 1000 then newO (.list xs) else fail
  | _ => fail
theorem ty_list : BiSim prog w h₀ hd k (.type "list") listD := by
  intro A env ρ₀ vs cs ha hvs s ρ σ e rr v σ' hd' Q E kk
  refine (let Gol : Prop := _; (?_ : Gol))
  obtain ⟨u, hq⟩ := args1 (F := fun vs => listD vs σ) hd' rfl (fun _ _ _ => rfl)
  subst hq
  refine  bind_k hd' fun hy1p σ₁ e1 e2 => ?_
  obtain ⟨i, xs⟩ := hy1p
  clear hd'
  obtain ⟨rfl, q1, rfl⟩ := asList_some e1
  obtain ⟨hl, e3⟩ := ite_inv e2
  clear e2
  obtain ⟨rfl, rfl⟩ := newO_some e3
  obtain ⟨c, rfl, hc⟩ := hvs.one
  refine  listAt_k rr.hp q1 fun a its n p1 p2 p3 p4 => ?_
  unfold Gol; clear Gol
  rw [(hc.ext e).eq_ref p1]
  refine call_list_seq a (.inl rfl) p2 rfl rfl (fun h' c' hk hn => ?_) (by rw [p4]; exact Nat.le_trans hl size_1000)
  obtain ⟨x, y, z⟩ := new_at rr (ao := .list xs) hk (free_of_ge (Nat.le_refl _)) (rr.hp.high (Nat.le_refl _)) ⟨its, ⟨c', hn⟩, p3.ext (Ext.snoc _ _)⟩
  exact kk _ h' s.toks _ x y z
noncomputable def tupleD : List AVal → M AVal
  | [v] => do
    let (_, xs) ← asList v
    if xs.length ≤ 1000 then newO (.tuple xs) else fail
  | _ => fail
theorem ty_tuple : BiSim prog w h₀ hd k (.type "tuple") tupleD := by
  intro A env ρ₀ vs cs ha hvs s ρ σ e rr v σ' hd' Q E kk
  refine (let Gol : Prop := _; (?_ : Gol))
  obtain ⟨u, hq⟩ := args1 (F := fun vs => tupleD vs σ) hd' rfl (fun _ _ _ => rfl)
  subst hq
  refine  bind_k hd' fun hy2p σ₁ e1 e2 => ?_
  obtain ⟨i, xs⟩ := hy2p
  clear hd'
  obtain ⟨rfl, q1, rfl⟩ := asList_some e1
  obtain ⟨hl, e3⟩ := ite_inv e2
  clear e2
  obtain ⟨rfl, rfl⟩ := newO_some e3
  obtain ⟨c, rfl, hc⟩ := hvs.one
  refine  listAt_k rr.hp q1 fun a its n p1 p2 p3 p4 => ?_
  unfold Gol; clear Gol
  rw [(hc.ext e).eq_ref p1]
  refine call_tuple_list (IsL.isList p2) (fun h' hk => ?_) (by rw [p4]; exact Nat.le_trans hl size_1000)
  have hn : s.heap.get? h'.objs.size = none := by
    cases q : s.heap.get? h'.objs.size with
    | none => rfl
    | some o' => exact absurd (Heap.lt_size (hk _ o' q)) (Nat.lt_irrefl _)
  have hmo : (h'.objs.size == sysModules) = false := (rr.hp.keeps hk).high (Nat.le_refl _)
  obtain ⟨x, y, z⟩ := new_at rr (h' := h'.push { cls := .type "tuple", data := .seq its }) (ao := .tuple xs) (fun b o' e => Heap.get?_push_of_some _ (hk b o' e)) hn hmo ⟨its, 0, Heap.get?_push_size _ rfl, p3.ext (Ext.snoc _ _)⟩
  exact kk _ _ s.toks _ x y z
noncomputable def setD : List AVal → M AVal
  | [] => newO (.set [])
  | _ => fail
theorem ty_set : BiSim prog w h₀ hd k (.type "set") setD := by
  intro A env ρ₀ vs cs ha hvs s ρ σ e rr v σ' hd' Q E kk
  refine (let Gol : Prop := _; (?_ : Gol))
  cases vs with
  | cons a l => exact (fail_some (σ := σ) hd').elim
  | nil =>
    obtain ⟨rfl, rfl⟩ := newO_some hd'
    cases hvs
    refine call_set_0 fun led => ?_
    try clear Gol
    have hS : (s.heap.push { cls := .type "set", dict := none, data := .set #[] 0 (.fresh 0 0 led) }).SetOf (intKind prog w) s.heap.objs.size (fun k => decide (k ∈ ([] : List Int))) ([] : List Int).length :=
      ⟨_, #[], 0, _, Heap.get?_push_size _ rfl, ⟨rfl, rfl, rfl⟩, rfl, fun e he => by simp at he, fun k => by simp, by decide, by rfl, rfl⟩
    refine  new_obj_k rr (o := { cls := .type "set", dict := none, data := .set #[] 0 (.fresh 0 0 led) }) (ao := .set []) hS fun x y z => ?_
    exact kk _ _ s.toks _ x y z
noncomputable def rangeD : List AVal → M AVal
  | [.int n] => newO (.range 0 n 1)
  | [.int a, .int b, .int c] => if c = -1 ∧ (b - a).natAbs < 1000000 then newO (.range a b c) else fail
  | _ => fail
theorem rangeD_some {vs : List AVal} {σ σ' : St} {v : AVal} (h : rangeD vs σ = some (v, σ')) : (∃ n, vs = [.int n] ∧ newO (.range 0 n 1) σ = some (v, σ')) ∨
    ∃ a b, vs = [.int a, .int b, .int (-1)] ∧ (b - a).natAbs < 1000000 ∧ newO (.range a b (-1)) σ = some (v, σ') := by
  cases vs with
  | nil => exact (fail_some (σ := σ) h).elim
  | cons x l =>
    cases l with
    | nil =>
      obtain ⟨n, hq⟩ := argInt (F := fun x => rangeD [x] σ) h (fun _ => rfl) (fun _ => rfl) rfl (fun _ => rfl)
      subst hq
      exact .inl ⟨n, rfl, h⟩
    | cons y l =>
      cases l with
      | nil => exact (fail_some (σ := σ) (show fail σ = some (v, σ') by rw [← h]; cases x <;> first | rfl | (cases y <;> rfl))).elim
      | cons z l =>
        cases l with
        | cons q l => exact (fail_some (σ := σ) (show fail σ = some (v, σ') by rw [← h]; cases x <;> first | rfl | (cases y <;> first | rfl | (cases z <;> rfl)))).elim
        | nil =>
          obtain ⟨a, hq⟩ := argInt (F := fun x => rangeD [x, y, z] σ) h (fun _ => rfl) (fun _ => rfl) rfl (fun _ => rfl)
          subst hq
          obtain ⟨b, hq⟩ := argInt (F := fun y => rangeD [.int a, y, z] σ) h (fun _ => rfl) (fun _ => rfl) rfl (fun _ => rfl)
          subst hq
          obtain ⟨c, hq⟩ := argInt (F := fun z => rangeD [.int a, .int b, z] σ) h (fun _ => rfl) (fun _ => rfl) rfl (fun _ => rfl)
          subst hq
          obtain ⟨⟨rfl, hab⟩, h'⟩ := ite_inv h
          exact .inr ⟨a, b, rfl, hab, h'⟩
theorem ty_range : BiSim prog w h₀ hd k (.type "range") rangeD := by
  intro A env ρ₀ vs cs ha hvs s ρ σ e rr v σ' hd' Q E kk
  refine (let Gol : Prop := _; (?_ : Gol))
  rcases rangeD_some hd' with ⟨n, rfl, hd1⟩ | ⟨a, b, rfl, hab, hd1⟩
  · clear hd'
    obtain ⟨rfl, rfl⟩ := newO_some hd1
    obtain ⟨c, rfl, t, rfl⟩ := hvs.one
    refine call_range_1 ?_
    refine  new_obj_k rr (o := { cls := .type "range", data := .fields #[.int 0 s.toks, .int n t, .int 1 (s.toks + 1)] }) (ao := .range 0 n 1) ⟨_, _, _, Heap.get?_push_size _ rfl⟩ fun x y z => ?_
    exact kk _ _ _ _ x y z
  · clear hd'
    obtain ⟨rfl, rfl⟩ := newO_some hd1
    obtain ⟨_, _, _, rfl, ⟨t, rfl⟩, ⟨u, rfl⟩, ⟨t', rfl⟩⟩ := hvs.three
    refine call_range_3 (by decide) ?_ (.inl (PyProof.noPylong_small (by omega)))
    refine  new_obj_k rr (o := { cls := .type "range", data := .fields #[.int a t, .int b u, .int (-1) t'] }) (ao := .range a b (-1)) ⟨_, _, _, Heap.get?_push_size _ rfl⟩ fun x y z => ?_
    exact kk _ _ _ _ x y z

/-! bool(xs) -/
theorem meets_bool_list (l : Addr) (items : Array Value) (n : Nat) (hfit : (items.size : Int) < 2 ^ 63) :
    Meets (Builtin.«bool.__new__» ⟨[.type "bool", .ref l], []⟩) (fun _ R s => IsL s.heap l items n ∧ R (.ok (.ret (.bool (!items.isEmpty)))) { s with toks := s.toks + 1 + 1 }) :=
  Meets.of_wp fun prog w A R s hs => by
    obtain ⟨hl, hs⟩ := hs
    have f1 := F.conv_sub_bool
    have key := @wpAny_truthy_list prog w A.in1
    obtain ⟨hp, g, d, tk, os⟩ := s
    repeat (any_goals (first | assumption | with_reducible refine wpAny_truthy_list (IsL.isList hl) hfit ?_ | wp_step))
    all_goals first | exact ⟨_, rfl, hs⟩ | skip
noncomputable def boolD : List AVal → M AVal
  | [v] => do
    let (_, xs) ← asList v
    if xs.length ≤ 1000 then pure (.bool (!xs.isEmpty)) else fail
  | _ => fail
theorem ty_bool : BiSim prog w h₀ hd k (.type "bool") boolD := by
  intro A env ρ₀ vs cs ha hvs s ρ σ e rr v σ' hd' Q E kk
  refine (let Gol : Prop := _; (?_ : Gol))
  obtain ⟨u, hq⟩ := args1 (F := fun vs => boolD vs σ) hd' rfl (fun _ _ _ => rfl)
  subst hq
  refine  bind_k hd' fun hy3p σ₁ e1 e2 => ?_
  obtain ⟨i, xs⟩ := hy3p
  clear hd'
  obtain ⟨rfl, q1, rfl⟩ := asList_some e1
  obtain ⟨hl, e3⟩ := ite_inv e2
  clear e2
  obtain ⟨rfl, rfl⟩ := pure_some e3
  obtain ⟨c, rfl, hc⟩ := hvs.one
  refine  listAt_k rr.hp q1 fun a its n p1 p2 p3 p4 => ?_
  unfold Gol; clear Gol
  rw [(hc.ext e).eq_ref p1]
  refine call_bool_1 (meets_bool_list a its n (by rw [p4]; omega)) ⟨p2, rfl, kk _ s.heap _ ρ ?_ rr (.refl ..)⟩
  have : its.isEmpty = xs.isEmpty := by
    rw [Array.isEmpty, p4]
    cases xs <;> simp
  rw [this]; rfl
end
end Mine
end

section
open PySem PySem.W PyProof.Rows
set_option autoImplicit false
set_option linter.unusedVariables false
set_option maxRecDepth 100000
namespace Mine
section
variable {prog : Program} {w : World} {h₀ : Heap} {hd : Bool} {k : Nat} {sc : Scope} {K : Frag}

/-! iter(xs), next(it), for v in it -/
noncomputable def iterD : List AVal → M AVal
  | [v] => do
    let (i, _) ← asList v
    newO (.iter i 0)
  | _ => fail
theorem bi_iter : BiSim prog w h₀ hd k (.builtin "iter") iterD := by
  intro A env ρ₀ vs cs ha hvs s ρ σ e rr v σ' hd' Q E kk
  refine (let Gol : Prop := _; (?_ : Gol))
  obtain ⟨u, hq⟩ := args1 (F := fun vs => iterD vs σ) hd' rfl (fun _ _ _ => rfl)
  subst hq
  next =>
    refine  bind_k hd' fun hy1p σ₁ e1 e2 => ?_
    obtain ⟨i, xs⟩ := hy1p
    clear hd'
    obtain ⟨rfl, q1, rfl⟩ := asList_some e1
    obtain ⟨rfl, rfl⟩ := newO_some e2
    obtain ⟨c, rfl, hc⟩ := hvs.one
    refine  listAt_k rr.hp q1 fun a its n p1 p2 p3 p4 => ?_
    unfold Gol; clear Gol
    rw [(hc.ext e).eq_ref p1]
    refine Calls.call_function_entry (by decide +kernel) (by decide +kernel) kdk_entry_iter (kdk_args_iter _) ?_
    unfold Builtin.«iter»
    refine wpAny_bind (m := someArgs "iter" 1 2 _) (wpAny_of_eq (a := [Value.ref a]) (by first | rfl | kernel_rfl!) ?_)
    show wpAny _ _ (pyIter (.ref a) >>= _) _ _ _
    refine wpAny_bind (wpAny_pyIter_list (IsL.isList p2) ?_)
    refine  new_obj_k rr (o := { cls := .type "list_iterator", data := .fields #[.ref a, .int 0 0] }) (ao := .iter i 0) ⟨a, _, Ext.snoc _ _ _ _ p1, Heap.get?_push_size _ rfl⟩ fun x y z => ?_
    exact wpAny_pure ⟨_, rfl, kk _ _ s.toks _ x y z⟩

/-- what __next__ of a list's iterator gives -/
noncomputable abbrev IsIt (h : Heap) (it l : Addr) (i : Nat) (sl : Array (Option Value)) : Prop := h.get? it = some ⟨.type "list_iterator", none, .fields #[.ref l, .int i 0], sl⟩
theorem IsIt.iter {h : Heap} {it l : Addr} {i : Nat} {sl : Array (Option Value)} (x : IsIt h it l i sl) : h.IsListIter it l i := ⟨_, x, rfl, rfl⟩
theorem next_body {A : Around} {E : Value → Shared → Prop} {s : Shared} {it l : Addr} {i : Nat} {sl : Array (Option Value)} {items : Array Value} {x : Value} {Q : Fin → Shared → Prop} (hit : IsIt s.heap it l i sl)
    (hl : s.heap.IsList l items) (hx : items[i]? = some x) (hQ : ∀ h', IsIt h' it l (i + 1) sl → Heap.SameBut it s.heap h' → Q (.done (.ret x)) { s with heap := h' }) :
    wpAny (model prog w) A (Builtin.«list_iterator.__next__» ⟨[.ref it], []⟩) Q E s := by
  have ho : s.heap.get? it = _ := hit
  obtain ⟨ol, hol, _, nl, hdl⟩ := hl
  show wpAny _ _ (field (.ref it) 0 >>= _) _ _ s
  refine wpAny_bind (wpAny_field ho rfl (x := .ref l) rfl ?_)
  try clear Gol
  try (unfold Gol; clear Gol)
  show wpAny _ _ (if (Value.ref l == Value.none) = true then _ else _) _ _ s
  try (unfold Gol; clear Gol)
  rw [if_neg (show ¬ ((Value.ref l == Value.none) = true) from Bool.false_ne_true)]
  try (unfold Gol; clear Gol)
  show wpAny _ _ (field (.ref it) 1 >>= _) _ _ s
  refine wpAny_bind (wpAny_field ho rfl (x := .int i 0) rfl ?_)
  try clear Gol
  try (unfold Gol; clear Gol)
  show wpAny _ _ (seqItems? (.ref l) >>= _) _ _ s
  refine wpAny_bind (wpAny_seqItems hol hdl ?_)
  try clear Gol
  try (unfold Gol; clear Gol)
  simp only [Int.toNat_natCast, hx]
  refine wpAny_bind (wpAny_setField ho rfl (by simp) (wpAny_pure (hQ _ ?_ (Heap.SameBut.update ..))))
  have := Heap.get?_update_self (Obj.mapFields (·.setIfInBounds 1 (rawInt ((i : Int) + 1)))) ho (Obj.isFreed_of_fields (Obj.data_mapFields rfl _))
  refine this.trans ?_
  try clear Gol
  try (unfold Gol; clear Gol)
  show some _ = some _
  try (unfold Gol; clear Gol)
  simp [Obj.mapFields, rawInt]
/-- what __next__ of a list's iterator gives -/
theorem next_item {A : Around} {E : Value → Shared → Prop} {s : Shared} {it l : Addr} {i : Nat} {sl : Array (Option Value)} {items : Array Value} {x : Value} {Q : Value → Shared → Prop} (hit : IsIt s.heap it l i sl)
    (hl : s.heap.IsList l items) (hx : items[i]? = some x) (hQ : ∀ h', IsIt h' it l (i + 1) sl → Heap.SameBut it s.heap h' → Q x { s with heap := h' }) :
    wpAny (model prog w) A (call (.builtin "list_iterator.__next__") [.ref it]) Q E s :=
  wpAny_call_entry slot_listiter_next hit.iter.typeIs entry_listiter_next (next_body hit hl hx fun h' a b => ⟨x, rfl, hQ h' a b⟩) (args_listiter_next _)
noncomputable def nextD : List AVal → M AVal
  | [.ref i] => do
    match ← getO i with
    | .iter l j => match ← getO l with
      | .list xs => do let v ← lift xs[j]?; setO i (.iter l (j + 1)); pure v
      | _ => fail
    | _ => fail
  | _ => fail
theorem bi_next : BiSim prog w h₀ hd k (.builtin "next") nextD := by
  intro A env ρ₀ vs cs ha hvs s ρ σ e rr v σ' hd' Q E kk
  refine (let Gol : Prop := _; (?_ : Gol))
  obtain ⟨u, hq⟩ := args1 (F := fun vs => nextD vs σ) hd' rfl (fun a _ _ => by cases a <;> rfl)
  subst hq
  obtain ⟨i, hq⟩ := argRef (F := fun u => nextD [u] σ) hd' (fun _ => rfl) (fun _ => rfl) rfl (fun _ => rfl)
  subst hq
  obtain ⟨l, j, q1, hd1⟩ := getI_inv (f := fun l j => do match ← getO l with | .list xs => (do let v ← lift xs[j]?; setO i (.iter l (j + 1)); pure v) | _ => fail) hd'
  clear hd'
  obtain ⟨xs, q2, hd2⟩ := getL_inv (f := fun xs => do let v ← lift xs[j]?; setO i (.iter l (j + 1)); pure v) hd1
  clear hd1
  refine  bind_k hd2 fun u σ₃ e3 hd3 => ?_
  obtain ⟨q3, rfl⟩ := lift_some e3
  clear hd2 e3
  obtain ⟨rfl, rfl⟩ := set_inv hd3
  clear hd3
  obtain ⟨c, rfl, hc⟩ := hvs.one
  refine  listAt_k rr.hp q2 fun a its n p1 p2 p3 p4 => ?_
  refine  getK_k rr.hp q1 fun b p5 hy3 => ?_
  obtain ⟨a', sl, p6, p7⟩ := hy3
  rw [p1] at p6; cases p6
  have p7' : IsIt s.heap b a j sl := p7
  unfold Gol; clear Gol
  rw [(hc.ext e).eq_ref p5]
  obtain ⟨cx, e6, e7⟩ := p3.get q3
  refine Calls.call_function_entry (by decide +kernel) (by decide +kernel) kdk_entry_next (kdk_args_next _) ?_
  unfold Builtin.«next»
  refine wpAny_bind (m := someArgs "next" 1 2 _) (wpAny_of_eq (a := [Value.ref b]) (by first | rfl | kernel_rfl!) ?_)
  dsimp only
  have hT : s.TypeIs (.ref b) "list_iterator" := p7'.iter.typeIs
  refine wpAny_bind (wpAny_specialOf (name := Str.ofString "__next__") hT slot_listiter_next.lookup ?_)
  refine wpAny_ite_split (fun hab => absurd hab (by decide)) (fun _ => ?_)
  refine wpAny_bind (wpAny_callSpecial?_slot (name := Str.ofString "__next__") hT slot_listiter_next (next_item p7' (IsL.isList p2) (by simpa using e6) fun h' hi hs => ?_))
  exact wpAny_pure ⟨_, rfl, kk _ h' s.toks ρ e7 (rr.upd p5 hs.extBut ⟨a, sl, p1, hi⟩) (.upd (List.mem_iff_getElem?.mpr ⟨_, p5⟩) hs.extBut)⟩
/-- the end of a list's iterator: StopIteration -/
theorem stop_body {A : Around} {E : Value → Shared → Prop} {s : Shared} {it l : Addr} {i : Nat} {items : Array Value} {Q : Fin → Shared → Prop} (hh : A.handled = none) (hit : s.heap.IsListIter it l i)
    (hl : s.heap.IsList l items) (hx : items[i]? = none)
    (hE : ∀ h' ea vs, Heap.ExtBut it s.heap h' → (∃ o ws, h'.get? it = some o ∧ o.data = .fields ws) → s.heap.get? ea = none → ea ≠ it → h'.get? ea = some { cls := .type "StopIteration", data := .fields vs } → vs[1]? = some .none → 3 < vs.size → E (.ref ea) { s with heap := h' }) :
    wpAny (model prog w) A (Builtin.«list_iterator.__next__» ⟨[.ref it], []⟩) Q E s := by
  obtain ⟨o, ho, hc, hd⟩ := id hit
  obtain ⟨ol, hol, _, nl, hdl⟩ := hl
  show wpAny _ _ (field (.ref it) 0 >>= _) _ _ s
  refine wpAny_bind (wpAny_field ho hd (x := .ref l) rfl ?_)
  try clear Gol
  try (unfold Gol; clear Gol)
  show wpAny _ _ (if (Value.ref l == Value.none) = true then _ else _) _ _ s
  try (unfold Gol; clear Gol)
  rw [if_neg (show ¬ ((Value.ref l == Value.none) = true) from Bool.false_ne_true)]
  try (unfold Gol; clear Gol)
  show wpAny _ _ (field (.ref it) 1 >>= _) _ _ s
  refine wpAny_bind (wpAny_field ho hd (x := .int i 0) rfl ?_)
  try clear Gol
  try (unfold Gol; clear Gol)
  show wpAny _ _ (seqItems? (.ref l) >>= _) _ _ s
  refine wpAny_bind (wpAny_seqItems hol hdl ?_)
  try clear Gol
  try (unfold Gol; clear Gol)
  simp only [Int.toNat_natCast, hx]
  refine wpAny_bind (wpAny_rule (wpAny_bind (wpAny_setField ho hd (by simp) ?_)))
  try clear Gol
  try (unfold Gol; clear Gol)
  show wpAny _ _ (newExc (.type "StopIteration") [] >>= _) _ _ _
  refine wpAny_bind ?_
  try clear Gol
  try (unfold Gol; clear Gol)
  simp only [newExc, newTuple]
  refine wpAny_bind (wpAny_newObj_type ?_ (by size_fits))
  refine wpAny_bind (m := firstArgMember _ _) (wpAny_of_eq (a := Value.none) (by first | rfl | (simp only [firstArgMember]; rfl)) ?_)
  try clear Gol
  refine wpAny_newObj_type ?_ (by size_fits)
  try (unfold Gol; clear Gol)
  simp only [raiseNew]
  refine wpAny_bind (wpAny_handled ?_)
  try clear Gol
  try (unfold Gol; clear Gol)
  rw [hh]
  refine wpAny_bind (wpAny_pure (wpAny_throw ?_))
  try clear Gol
  have hlt : it < s.heap.objs.size := Heap.lt_size ho
  have hsz : (s.heap.update it (Obj.mapFields (·.setIfInBounds 0 Value.none))).objs.size = s.heap.objs.size := Heap.size_update ..
  refine hE _ _ _ (((Heap.SameBut.update ..).extBut.push _).push _) ⟨_, _, Heap.get?_push_of_some _ (Heap.get?_push_of_some _ (Heap.get?_update_self _ ho (Obj.isFreed_of_fields (Obj.data_mapFields hd _)))), Obj.data_mapFields hd _⟩ (free_of_ge ?_) ?_ (Heap.get?_push_size _ rfl) rfl (by rw [Array.size_append]; exact Nat.lt_of_lt_of_le (show 3 < 6 by decide) (Nat.le_add_right _ _))
  · rw [Heap.size_push, hsz]; exact Nat.le_succ _
  · rw [Heap.size_push, hsz]; exact Nat.ne_of_gt (Nat.lt_succ_of_lt hlt)

theorem next_stop {A : Around} {E : Value → Shared → Prop} {s : Shared} {it l : Addr} {i : Nat} {items : Array Value} {Q : Value → Shared → Prop} (hh : A.handled = none) (hit : s.heap.IsListIter it l i)
    (hl : s.heap.IsList l items) (hx : items[i]? = none)
    (hE : ∀ h' ea vs, Heap.ExtBut it s.heap h' → (∃ o ws, h'.get? it = some o ∧ o.data = .fields ws) → s.heap.get? ea = none → ea ≠ it → h'.get? ea = some { cls := .type "StopIteration", data := .fields vs } → vs[1]? = some .none → 3 < vs.size → E (.ref ea) { s with heap := h' }) :
    wpAny (model prog w) A (call (.builtin "list_iterator.__next__") [.ref it]) Q E s :=
  wpAny_call_entry slot_listiter_next hit.typeIs entry_listiter_next (stop_body (A := A.in1) hh hit hl hx hE) (args_listiter_next _)
noncomputable def dLoopIt (i : Nat) (bnd : AVal → M Unit) (db : M AFlow) : Nat → M AFlow
  | 0 => fail
  | n + 1 => do
    match ← getO i with
    | .iter l j => match ← getO l with
      | .list xs => match xs[j]? with
        | none => do setO i .dead; pure .next
        | some v => do
          setO i (.iter l (j + 1))
          bnd v
          match ← db with
          | .brk => pure .next
          | .ret u => pure (.ret u)
          | _ => dLoopIt i bnd db n
      | _ => fail
    | _ => fail
noncomputable def asIter (v : AVal) : M Nat := match v with
  | .ref i => do
    match ← getO i with
    | .iter _ _ => pure i
    | _ => fail
  | _ => fail
theorem asIter_some {v : AVal} {σ σ' : St} {i : Nat} (h : asIter v σ = some (i, σ')) : v = .ref i ∧ σ' = σ ∧ ∃ l j, σ.H[i]? = some (.iter l j) := by
  cases v with
  | ref j =>
    refine  bind_k h fun o σ₁ e1 e2 => ?_
    obtain ⟨e3, rfl⟩ := getO_some e1
    cases o with
    | iter l j => obtain ⟨rfl, rfl⟩ := pure_some e2; exact ⟨rfl, rfl, l, j, e3⟩
    | _ => exact (fail_some (σ := σ₁) e2).elim
  | _ => exact (fail_some (σ := σ) h).elim
theorem s_forIt {target iter : Expr} {body : List Stmt} {pos : Pos} {di : M AVal} {bnd : AVal → M Unit} {db : M AFlow} (n : Nat) (hi : SimE prog w h₀ true k sc iter di)
    (hbnd : ∀ A env ρ v c, AOk true k A → EOk sc env → VR ρ v c → Sim prog w h₀ A env ρ (assign target env c) (fun _ _ _ => True) (bnd v)) (hb : SimB prog w h₀ true k sc body db)
    (hs : ∀ env x, foldedSetIterable iter env x = pure x := by intro _ _; rfl) (ht : ∀ it v, letOwnedTupleGo target it v = pure () := by intro _ _; rfl) :
    SimS prog w h₀ true k sc (.For target iter body [] pos) (do let v ← di; let i ← asIter v; dLoopIt i bnd db n) := by
  intro A env ρ₀ ha he s ρ σ e rr f σ' hd' Q E kk
  refine (let Gol : Prop := _; (?_ : Gol))
  refine  bind_k hd' fun v σ₁ e1 hd2 => ?_
  refine  bind_k hd2 fun i σ₂ e2 e3 => ?_
  obtain ⟨rfl, rfl, l, j, e4⟩ := asIter_some e2
  refine wpAny_For (hi A env ρ₀ ha he s ρ σ e rr _ σ₂ e1 _ _ fun c h₁ tk₁ ρ₁ R₁ r₁ st₁ => ?_) (hs env)
  try clear Gol
  refine (let Gol : Prop := _; (?_ : Gol))
  refine  getK_k r₁.hp e4 fun b p5 hy7 => ?_
  obtain ⟨a', sl0, p6, p7⟩ := hy7
  have p7' : IsIt h₁ b a' j sl0 := p7
  try (unfold Gol; clear Gol)
  rw [R₁.eq_ref p5]
  refine wpAny_pyIter_listiter p7'.iter ?_
  try clear Gol
  refine (let Inv : Nat → Shared → Prop := fun m s' => ∃ h' tk ρ' σ₁, s' = { s with heap := h', toks := tk } ∧ Rel prog w h₀ A.frames env ρ' σ₁ h' ∧ Step (Fa env) ρ ρ' s.heap h' ∧ dLoopIt i bnd db m σ₁ = some (f, σ') ∧ ρ'[i]? = some b; codeAny_forLoop Inv ?_ n
    ⟨h₁, tk₁, ρ₁, σ₂, rfl, r₁, st₁, e3, p5⟩ (ht _))
  intro m s' hz1
  try clear Gol
  refine (let Gol : Prop := _; (?_ : Gol))
  obtain ⟨h', tk, ρ', σ₃, hz2, hz3⟩ := hz1
  unfold Gol; clear Gol
  subst hz2
  refine (let Gol : Prop := _; (?_ : Gol))
  obtain ⟨r', st', hj, hbi⟩ := hz3
  have hbm : b ∈ ρ' := List.mem_iff_getElem?.mpr ⟨i, hbi⟩
  cases m with
  | zero => exact (fail_some (σ := σ₃) hj).elim
  | succ m =>
    refine  bind_k hj fun o1 σ₄ q1 hj => ?_
    obtain ⟨q2, rfl⟩ := getO_some q1
    cases o1 with
    | iter l j =>
      refine  bind_k hj fun o2 σ₅ q3 hj => ?_
      obtain ⟨q4, rfl⟩ := getO_some q3
      cases o2 with
      | list xs =>
        refine  getK_k r'.hp q2 fun b' w1 hy10 => ?_
        obtain ⟨a1, sl1, w2, w3'⟩ := hy10
        rw [hbi] at w1; cases w1
        have w3'' : IsIt h' b a1 j sl1 := w3'
        have w3 := w3''.iter
        refine  listAt_k r'.hp q4 fun a2 its nn w4 w5 w6 w7 => ?_
        rw [w2] at w4; cases w4
        cases hx : xs[j]? with
        | none =>
          simp only [hx] at hj
          refine  bind_k hj fun _ σ₆ q5 q6 => ?_
          obtain ⟨rfl, rfl⟩ := pure_some q6
          cases q5
          try (unfold Gol; clear Gol)
          unfold pyNext
          refine wpAny_bind (wpAny_attempt (wpAny_callSpecial?_slot (name := Str.ofString "__next__") w3.typeIs slot_listiter_next (next_stop (ha.handled rfl) w3 (IsL.isList w5) (by have := w6.getNone hx; simpa using this) fun h₂ ea vs hs2 hdead _ _ he _ _ => ?_)))
          refine wpAny_bind (wpAny_isInstance (T := "StopIteration") (b := true) ⟨_, he, rfl⟩ isSubtype_stop ?_)
          try clear Gol
          refine wpAny_pure (wpAny_execs_nil ?_)
          try clear Gol
          refine (let Gol : Prop := _; (?_ : Gol))
          obtain ⟨od, _, hdd, _⟩ := hdead
          have r2 := r'.upd (o := .dead) hbi hs2 ⟨od, hdd⟩
          exact kk .next h₂ tk ρ' rfl r2 (r2.trans st' (.upd hbm hs2))
        | some v =>
          simp only [hx] at hj
          refine  bind_k hj fun _ σ₆ q5 hj => ?_
          cases q5
          refine  bind_k hj fun _ σ₇ q6 hj => ?_
          refine  bind_k hj fun g σ₈ q7 q8 => ?_
          obtain ⟨cx, w8, w9⟩ := w6.get hx
          try (unfold Gol; clear Gol)
          unfold pyNext
          refine wpAny_bind (wpAny_attempt (wpAny_callSpecial?_slot (name := Str.ofString "__next__") (s := { s with heap := h', toks := tk }) w3.typeIs slot_listiter_next (next_item w3'' (IsL.isList w5) (by simpa using w8) fun h₂ hit hs2 => wpAny_pure ?_)))
          have r2 := r'.upd (o := .iter l (j + 1)) hbi hs2.extBut ⟨a1, sl1, w2, hit⟩
          have st2 : Step (Fa env) ρ ρ' s.heap h₂ := r2.trans st' (.upd hbm hs2.extBut)
          refine hbnd A env ρ' v cx ha he w9 _ ρ' _ (.refl _) r2 () σ₇ q6 _ _ fun _ h₃ tk₃ ρ₃ _ r₃ st₃ => ?_
          try clear Gol
          have st3 := r₃.trans st2 st₃
          refine hb A env ρ₃ ha he _ ρ₃ σ₇ (.refl _) r₃ g σ₈ q7 _ _ fun c₂ h₄ tk₄ ρ₄ R₄ r₄ st₄ => ?_
          try clear Gol
          refine (let Gol : Prop := _; (?_ : Gol))
          have st4 := r₄.trans st3 st₄
          have hb4 := st₄.ext _ _ (st₃.ext _ _ hbi)
          cases g with
          | next => cases R₄; exact ⟨m, Nat.lt_succ_self _, h₄, tk₄, ρ₄, σ₈, rfl, r₄, st4, q8, hb4⟩
          | cont => cases R₄; exact ⟨m, Nat.lt_succ_self _, h₄, tk₄, ρ₄, σ₈, rfl, r₄, st4, q8, hb4⟩
          | brk => cases R₄; obtain ⟨rfl, rfl⟩ := pure_some q8; exact kk _ h₄ tk₄ ρ₄ rfl r₄ st4
          | ret u => obtain ⟨c', rfl, R⟩ := R₄; obtain ⟨rfl, rfl⟩ := pure_some q8; exact kk _ h₄ tk₄ ρ₄ ⟨c', rfl, R⟩ r₄ st4
      | _ => exact (fail_some (σ := σ₅) hj).elim
    | _ => exact (fail_some (σ := σ₄) hj).elim
end
end Mine
end

section
open PySem PySem.W PyProof.Rows
set_option autoImplicit false
set_option linter.unusedVariables false
set_option maxRecDepth 100000
namespace Mine

/-! the dict of an object and slots -/
theorem isStr_str {x y : Str} {t : Tok} : (Value.str x t).isStr y = (x == y) := rfl
theorem SDs.noRef {ρ : Rho} {kvs : List (Str × AVal)} {es : List DictEntry} (h : SDs ρ kvs es) : es.any (·.refKey) = false := by
  induction h with
  | nil => rfl
  | cons a _ ih => rw [List.any_cons, ih]; rfl
noncomputable def lookS : List (Str × AVal) → Str → Option AVal
  | [], _ => none
  | (y, v) :: r, x => if y = x then some v else lookS r x
noncomputable def storS : List (Str × AVal) → Str → AVal → List (Str × AVal)
  | [], x, v => [(x, v)]
  | (y, u) :: r, x, v => if y = x then (y, v) :: r else (y, u) :: storS r x v
theorem SDs.find {ρ : Rho} {kvs : List (Str × AVal)} {es : List DictEntry} (h : SDs ρ kvs es) (x : Str) :
    (∀ v, lookS kvs x = some v → ∃ e, es.find? (·.key.isStr x) = some e ∧ VR ρ v e.val) ∧ (lookS kvs x = none → es.find? (·.key.isStr x) = none) := by
  induction h with
  | nil => exact ⟨fun _ e => (by cases e), fun _ => rfl⟩
  | @cons y hh t v c vs es a _ ih =>
    unfold lookS
    rw [List.find?_cons]
    by_cases q : y = x
    · subst q
      have e1 : (Value.str y t).isStr y = true := by rw [isStr_str]; exact beq_self_eq_true y
      simp only [if_true, e1]
      exact ⟨fun u e => by cases e; exact ⟨_, rfl, a⟩, fun e => by cases e⟩
    · have e1 : (Value.str y t).isStr x = false := by rw [isStr_str]; exact beq_eq_false_iff_ne.mpr q
      simp only [if_neg q, e1]
      exact ih
theorem SDs.get {ρ : Rho} {kvs : List (Str × AVal)} {es : List DictEntry} (h : SDs ρ kvs es) {x : Str} {v : AVal} (e : lookS kvs x = some v) : ∃ c, getL x es = some (some c) ∧ VR ρ v c := by
  obtain ⟨en, e1, e2⟩ := (h.find x).1 v e
  exact ⟨en.val, by unfold getL; rw [e1], e2⟩
theorem SDs.miss {ρ : Rho} {kvs : List (Str × AVal)} {es : List DictEntry} (h : SDs ρ kvs es) {x : Str} (e : lookS kvs x = none) : getL x es = some none := by
  unfold getL; rw [(h.find x).2 e, h.noRef]; rfl
theorem SDs.told {ρ : Rho} {kvs : List (Str × AVal)} {es : List DictEntry} (h : SDs ρ kvs es) (x : Str) : (getL x es).isSome = true := by
  cases q : lookS kvs x with
  | none => rw [h.miss q]; rfl
  | some v => obtain ⟨c, e, _⟩ := h.get q; rw [e]; rfl
theorem SDs.put {ρ : Rho} {kvs : List (Str × AVal)} {es : List DictEntry} (h : SDs ρ kvs es) {x : Str} {v : AVal} {c : Value} (hv : VR ρ v c) (hh : Int) (t : Tok) : SDs ρ (storS kvs x v) (putL x hh (.str x t) c es) := by
  induction h with
  | nil => exact .cons hv .nil
  | @cons y hh' t' u cu vs es a b ih =>
    unfold storS putL
    by_cases q : y = x
    · subst q
      have e1 : (Value.str y t').isStr y = true := by rw [isStr_str]; exact beq_self_eq_true y
      simp only [if_true, e1]
      exact .cons hv b
    · have e1 : (Value.str y t').isStr x = false := by rw [isStr_str]; exact beq_eq_false_iff_ne.mpr q
      simp only [if_neg q, e1, Bool.false_eq_true, if_false]
      exact .cons a ih
theorem SDs.length {ρ : Rho} {kvs : List (Str × AVal)} {es : List DictEntry} (h : SDs ρ kvs es) : es.length = kvs.length := by
  induction h with
  | nil => rfl
  | cons _ _ ih => simp [ih]
theorem storS_length (x : Str) (v : AVal) : ∀ kvs : List (Str × AVal), (storS kvs x v).length ≤ kvs.length + 1
  | [] => Nat.le_refl _
  | (y, u) :: r => by
    unfold storS
    split
    · simp
    · have := storS_length x v r; simp; omega
theorem vos_get {ρ : Rho} {vs : List (Option AVal)} {cs : List (Option Value)} (h : VOs ρ vs cs) {i : Nat} {v : AVal} (e : vs[i]? = some (some v)) : ∃ c, cs[i]? = some (some c) ∧ VR ρ v c := by
  induction h generalizing i with
  | nil => simp at e
  | none _ ih =>
    cases i with
    | zero => simp at e
    | succ i => simp at e; obtain ⟨c, h1, h2⟩ := ih e; exact ⟨c, by simpa using h1, h2⟩
  | some a _ ih =>
    cases i with
    | zero => simp at e; subst e; exact ⟨_, by simp, a⟩
    | succ i => simp at e; obtain ⟨c, h1, h2⟩ := ih e; exact ⟨c, by simpa using h1, h2⟩
theorem vos_length {ρ : Rho} {vs : List (Option AVal)} {cs : List (Option Value)} (h : VOs ρ vs cs) : cs.length = vs.length := by
  induction h with
  | nil => rfl
  | none _ ih => simp [ih]
  | some _ _ ih => simp [ih]
theorem vos_pad {ρ : Rho} {vs : List (Option AVal)} {cs : List (Option Value)} (h : VOs ρ vs cs) (n : Nat) : VOs ρ (vs ++ List.replicate n none) (cs ++ List.replicate n none) := by
  induction h with
  | nil =>
    induction n with
    | zero => exact .nil
    | succ n ih => exact .none ih
  | none _ ih => exact .none ih
  | some a _ ih => exact .some a ih
theorem vos_set {ρ : Rho} {vs : List (Option AVal)} {cs : List (Option Value)} (h : VOs ρ vs cs) {v : AVal} {c : Value} (hv : VR ρ v c) (i : Nat) : VOs ρ (vs.set i (some v)) (cs.set i (some c)) := by
  induction h generalizing i with
  | nil => exact .nil
  | none b ih =>
    cases i with
    | zero => exact .some hv b
    | succ i => exact .none (ih i)
  | some a b ih =>
    cases i with
    | zero => exact .some hv b
    | succ i => exact .some a (ih i)
noncomputable def setSl (sl : List (Option AVal)) (i : Nat) (v : AVal) : List (Option AVal) := (sl ++ List.replicate (i + 1 - sl.length) none).set i (some v)

section
open PySem.Calls Builtin Builtin.ObjectAttr Builtin.Getset_descriptor
variable {prog : Program} {w : World} {A : Around} {K : Frag} {C x : Addr} {s : Shared} {R : Result → Shared → Prop}
theorem osa_dictM {ox od od' : Obj} {dx : Addr} {name : Str} {tk : Tok} {v : Value} {es : List DictEntry} {n : Nat} (D : s.heap.get? dx = some od) (X : K.In s.heap)
    (I : InstAt s.heap x ox C (some od)) (hd : ox.dict = some dx) (hp : plainOver K C = true) (ht : takerIn K C name = some none) (hh : (clsIn K C).any (·.hasDict) = true)
    (hl : (lookIn name od).isSome = true) (D' : (s.heap.update dx (Obj.putName name (PyData.keyHash w.params name) (.str name s.toks) v)).get? dx = some od') (e' : od'.data = .dict es.toArray n) (hz : es.length ≤ 1000)
    (h : R (.ok (.ret .none)) { s with heap := s.heap.update dx (Obj.putName name (PyData.keyHash w.params name) (.str name s.toks) v), toks := s.toks + 1 }) :
    codeAny (model prog w) A (.call (.builtin "object.__setattr__") ⟨[.ref x, .str name tk, v], []⟩) R s := by
  refine osa_open X I hp ht fun b => ?_
  try clear Gol
  refine (let Gol : Prop := _; (?_ : Gol))
  obtain ⟨cd, hc, hd'⟩ := any_some hh
  obtain ⟨hx, hcl, hn, -⟩ := I
  obtain ⟨oc, odi, oda, osl⟩ := ox
  dsimp only at hcl hd
  subst hcl hd
  refine wpAny_bind (wpAny_pure (wpAny_bind (wpAny_bind (wpAny_loadPart hx (wpAny_bind ((looks_clsIn X hc).here ?_))))))
  try clear Gol
  try (unfold Gol; clear Gol)
  rw [hd']
  refine wpAny_pure (a := some dx) (wpAny_bind (wpAny_pure (wpAny_bind ?_)))
  try clear Gol
  try (unfold Gol; clear Gol)
  unfold nsSet
  refine wpAny_bind (wpAny_bind (wpAny_askSetting (wpAny_pure (wpAny_bind (wpAny_mkText (wpAny_bind (wpAny_loadPart D ?_)))))))
  try clear Gol
  refine (let Gol : Prop := _; (?_ : Gol))
  unfold lookIn at hl
  split at hl
  · rename_i es₀ n₀ q
    try (unfold Gol; clear Gol)
    rw [q]
    try (unfold Gol; clear Gol)
    dsimp only
    have c : (!es₀.any (·.key.isStr name) && es₀.any (·.refKey)) = false := by
      try (unfold Gol; clear Gol)
      rw [← Array.any_toList, ← Array.any_toList]
      split at hl
      · rename_i en he
        try (unfold Gol; clear Gol)
        rw [List.any_eq_true.mpr ⟨en, List.mem_of_find?_eq_some he, List.find?_some he⟩]; rfl
      · split at hl
        · cases hl
        · rename_i z; rw [Bool.not_eq_true] at z; rw [z, Bool.and_false]
    try (unfold Gol; clear Gol)
    rw [aRefKeyMayBeTheName_at, c]
    refine wpAny_updatePart D ?_
    try clear Gol
    refine wpAny_bind (wpAny_lookBehind D' (by rw [e']; exact pastItsLine_dict (by rw [List.size_toArray, sizeLine_eq]; omega)) ?_)
    try clear Gol
    exact wpAny_pure h
  · cases hl

theorem slot_setM {ox : Obj} {od : Option Obj} {v : Value} {p i : Nat} (X : K.In s.heap) (I : InstAt s.heap x ox C od) (hp : slotIn K p C = some i) (hi : i < 1000)
    (h : R (.ok (.ret .none)) { s with heap := s.heap.update x fun o => { o with slots := (o.slots ++ Array.replicate (i + 1 - o.slots.size) none).setIfInBounds i (some v) } }) :
    codeAny (model prog w) A (.call (.builtin "member_descriptor.__set__") ⟨[.ref p, .ref x, v], []⟩) R s := by
  obtain ⟨n, tn, owner, behind, tb, d, sl, cd, ho, hc, hm, hb, rfl⟩ := slot_of X hp
  obtain ⟨hh, g, dr, t, os⟩ := s
  have L0 := I.type (M := model prog w)
  have L1 := looks_mroIn (M := model prog w) X hm
  have L2 : Looks (model prog w) hh (Slots.slotNamesOf (.ref C)) cd.slotNames := (looks_clsIn X hc).andThen .now
  have hx := I.at_
  dsimp only at ho hx L0 L1
  have f0 := looks_field (M := model prog w) ho 0 (v := .str n tn) rfl
  have f1 := looks_field (M := model prog w) ho 1 (v := owner) rfl
  have f3 := looks_field (M := model prog w) ho 3 (v := .builtin "proto.slot#set") rfl
  have f4 := looks_field (M := model prog w) ho 4 (v := .int behind tb) rfl
  refine codeAny_call_builtin KF.slot_mset.plain KF.entry_mset (KF.slot_mset.check _ _ _ _ _ _ _ _ ⟨_, ho, rfl⟩ (KF.args_mset _ _ _) ?_)
  try clear Gol
  try (unfold Gol; clear Gol)
  unfold Builtin.«member_descriptor.__set__» descrSet descrStoreThrough descrCheckInstance descrNameAndClass isInstance
  have f5 : Looks (model prog w) hh (descrItself (.ref p)) [.ref p] := ((Looks.ld (part := none) ho).andThen .now).andThen (Looks.of_pure (by kernel_rfl))
  repeat lk
  refine ⟨Code.quiet_builtin _ (by decide +kernel), codeAny_builtin KF.entry_slotset ?_⟩
  try (unfold Gol; clear Gol)
  unfold Builtin.«proto.slot#set» Slots.target
  repeat lk
  try (unfold Gol; clear Gol)
  rw [if_neg hb]
  refine wpAny_pure (wpAny_bind ?_)
  try clear Gol
  try (unfold Gol; clear Gol)
  unfold setSlotAt
  try (unfold Gol; clear Gol)
  dsimp only
  try (unfold Gol; clear Gol)
  rw [if_neg (by rw [sizeLine_eq]; omega)]
  exact wpAny_updatePart hx (wpAny_pure h)
end
end Mine
end

section
open PySem PySem.W PyProof.Rows
set_option autoImplicit false
set_option linter.unusedVariables false
set_option maxRecDepth 100000
namespace Mine

noncomputable def hOk : AVal → Bool
  | .stat _ => false
  | _ => true
theorem VR.handed {ρ : Rho} {v : AVal} {c : Value} (h : VR ρ v c) (e : hOk v = true) : handedIn c = true := by
  cases v with
  | int i => obtain ⟨t, rfl⟩ := h; rfl
  | bool b => cases h; rfl
  | none => cases h; rfl
  | ref i => obtain ⟨a, _, rfl⟩ := h; rfl
  | stat u => cases e
noncomputable def instD (C : Addr) (v : AVal) : M (Nat × Nat × List (Option AVal)) := match v with
  | .ref i => do
    match ← getO i with
    | .inst C' d sl => if C' = C then pure (i, d, sl) else fail
    | _ => fail
  | _ => fail
theorem instD_some {C : Addr} {v : AVal} {σ σ' : St} {p : Nat × Nat × List (Option AVal)} (h : instD C v σ = some (p, σ')) : v = .ref p.1 ∧ σ.H[p.1]? = some (.inst C p.2.1 p.2.2) ∧ σ' = σ := by
  cases v with
  | ref j =>
    refine  bind_k h fun o σ₁ e1 e2 => ?_
    obtain ⟨e3, rfl⟩ := getO_some e1
    cases o with
    | inst C' d sl =>
      simp only at e2
      split at e2
      · rename_i q; subst q; obtain ⟨e4, rfl⟩ := pure_some e2; cases e4; exact ⟨rfl, e3, rfl⟩
      · exact (fail_some (σ := σ₁) e2).elim
    | _ => exact (fail_some (σ := σ₁) e2).elim
  | _ => exact (fail_some (σ := σ) h).elim
noncomputable def dictD (d : Nat) : M (List (Str × AVal)) := do
  match ← getO d with
  | .sdict kvs => pure kvs
  | _ => fail
theorem dictD_some {d : Nat} {σ σ' : St} {kvs : List (Str × AVal)} (h : dictD d σ = some (kvs, σ')) : σ.H[d]? = some (.sdict kvs) ∧ σ' = σ := by
  refine  bind_k h fun o σ₁ e1 e2 => ?_
  obtain ⟨e3, rfl⟩ := getO_some e1
  cases o with
  | sdict us => obtain ⟨rfl, rfl⟩ := pure_some e2; exact ⟨e3, rfl⟩
  | _ => exact (fail_some (σ := σ₁) e2).elim
noncomputable def getD (C : Addr) (name : Str) (v : AVal) : M AVal := do
  let p ← instD C v
  let kvs ← dictD p.2.1
  let u ← lift (lookS kvs name)
  if hOk u then pure u else fail
noncomputable def getSl (C : Addr) (j : Nat) (v : AVal) : M AVal := do
  let p ← instD C v
  let u ← lift (p.2.2[j]?.join)
  if hOk u then pure u else fail
noncomputable def putD (C : Addr) (name : Str) (v u : AVal) : M Unit := do
  let p ← instD C v
  let kvs ← dictD p.2.1
  if kvs.length ≤ 900 then setO p.2.1 (.sdict (storS kvs name u)) else fail
noncomputable def setSlD (C : Addr) (j : Nat) (v u : AVal) : M Unit := do
  let p ← instD C v
  setO p.1 (.inst C p.2.1 (setSl p.2.2 j u))

section
variable {prog : Program} {w : World} {h₀ : Heap} {hd : Bool} {k : Nat} {sc : Scope} {K : Frag}

theorem instAt {ρ : Rho} {H : List AObj} {h : Heap} (r : RelH prog w h₀ ρ H h) {i : Nat} {C : Addr} {d : Nat} {sl : List (Option AVal)} (e : H[i]? = some (.inst C d sl)) :
    ∃ a b cs od, ρ[i]? = some a ∧ ρ[d]? = some b ∧ InstAt h a ⟨.ref C, some b, .plain, cs⟩ C (some od) ∧ VOs ρ sl cs.toList ∧ h.get? b = some od := by
  obtain ⟨a, e1, b, cs, e2, e3, e4⟩ := getK r e
  obtain ⟨od, e5⟩ := r.alive (List.mem_iff_getElem?.mpr ⟨d, e2⟩)
  exact ⟨a, b, cs, od, e1, e2, ⟨e3, rfl, rfl, e5⟩, e4, e5⟩
theorem instAt_k {ρ : Rho} {H : List AObj} {h : Heap} {G : Prop} (r : RelH prog w h₀ ρ H h) {i : Nat} {C : Addr} {d : Nat} {sl : List (Option AVal)} (e : H[i]? = some (.inst C d sl))
    (k : ∀ a b cs od, ρ[i]? = some a → ρ[d]? = some b → InstAt h a ⟨.ref C, some b, .plain, cs⟩ C (some od) → VOs ρ sl cs.toList → h.get? b = some od → G) : G := by
  obtain ⟨a, b, cs, od, e1, e2, e3, e4, e5⟩ := instAt r e
  exact k a b cs od e1 e2 e3 e4 e5
noncomputable def GetA (prog : Program) (w : World) (h₀ : Heap) (name : Str) (D : AVal → M AVal) : Prop :=
  ∀ A env ρ₀ v c expr, VR ρ₀ v c → Sim prog w h₀ A env ρ₀ (getAttr c name expr) VR (D v)
noncomputable def SetA (prog : Program) (w : World) (h₀ : Heap) (name : Str) (D : AVal → AVal → M Unit) : Prop :=
  ∀ A env ρ₀ v c u cu, VR ρ₀ v c → VR ρ₀ u cu → Sim prog w h₀ A env ρ₀ (setAttr c name cu) (fun _ _ _ => True) (D v u)

theorem get_D (G : Gnd K h₀) {C : Addr} {name : Str} (hg : plainGet K C name = true) (hh : hasDictIn K C = true) {attr : Option Value} (ha : findIn K (.ref C) name = some attr) (hn : noGet K attr = true) :
    GetA prog w h₀ name (getD C name) := by
  intro A env ρ₀ v c expr hv s ρ σ e rr u σ' hd' Q E kk
  refine (let Gol : Prop := _; (?_ : Gol))
  refine  bind_k hd' fun p σ₁ e1 hd1 => ?_
  refine  bind_k hd1 fun kvs σ₂ e2 hd2 => ?_
  refine  bind_k hd2 fun u' σ₃ e3 hd3 => ?_
  obtain ⟨rfl, q1, rfl⟩ := instD_some e1
  obtain ⟨q2, rfl⟩ := dictD_some e2
  obtain ⟨q3, rfl⟩ := lift_some e3
  split at hd3
  · rename_i q4
    obtain ⟨rfl, rfl⟩ := pure_some hd3
    refine  instAt_k rr.hp q1 fun a b cs od p1 p2 I p3 p4 => ?_
    refine  getK_k rr.hp q2 fun b' p5 hy6 => ?_
    obtain ⟨es, n, p6, p7⟩ := hy6
    rw [p2] at p5; cases p5
    rw [p4] at p6; cases p6
    obtain ⟨cu, p8, p9⟩ := p7.get q3
    try (unfold Gol; clear Gol)
    rw [(hv.ext e).eq_ref p1]
    exact get_value (G.X.keeps rr.hp.keep) I (plainGet_of hg).1 (findObj_own hh ha hn (by show lookIn name (dictOf es n) = _; rw [lookIn_dict, p8])) (p9.handed q4) (kk _ s.heap _ ρ p9 rr (.refl ..))
  · exact (fail_some (σ := σ₃) hd3).elim
theorem get_S (G : Gnd K h₀) {C p : Addr} {name : Str} {j : Nat} (hg : plainGet K C name = true) (hc : isClsIn K C = true) (ha : findIn K (.ref C) name = some (some (.ref p)))
    (hn : specialIn K (.ref p) "__get__" = some (some (.builtin "member_descriptor.__get__"))) (ht : takesIn K (.ref p) = some true) (hp : slotIn K p C = some j) : GetA prog w h₀ name (getSl C j) := by
  intro A env ρ₀ v c expr hv s ρ σ e rr u σ' hd' Q E kk
  refine (let Gol : Prop := _; (?_ : Gol))
  refine  bind_k hd' fun q σ₁ e1 hd1 => ?_
  refine  bind_k hd1 fun u' σ₃ e3 hd3 => ?_
  obtain ⟨rfl, q1, rfl⟩ := instD_some e1
  obtain ⟨q3, rfl⟩ := lift_some e3
  split at hd3
  · rename_i q4
    obtain ⟨rfl, rfl⟩ := pure_some hd3
    refine  instAt_k rr.hp q1 fun a b cs od p1 p2 I p3 p4 => ?_
    obtain ⟨cu, p8, p9⟩ := vos_get p3 (i := j) (v := u) (by cases h : q.2.2[j]? with
      | none => rw [h] at q3; cases q3
      | some z => rw [h] at q3; exact congrArg some q3)
    try (unfold Gol; clear Gol)
    rw [(hv.ext e).eq_ref p1]
    have X := G.X.keeps rr.hp.keep
    refine get_bind X I (plainGet_of hg).1 (findObj_data hc ha hn ht) (plainGet_of hg).2 (wpAny_call (slot_get (s := { s with toks := s.toks + 1 }) X I hp (v := cu) ?_ (handed_on (p9.handed q4) (kk _ s.heap _ ρ p9 rr (.refl ..)))))
    try (unfold Gol; clear Gol)
    show (cs[j]?).join = _
    try (unfold Gol; clear Gol)
    rw [← Array.getElem?_toList, p8]; rfl
  · exact (fail_some (σ := σ₃) hd3).elim
theorem set_D (G : Gnd K h₀) {C : Addr} {name : Str} (hs : findIn K (.ref C) "__setattr__" = some (some (.builtin "object.__setattr__"))) (hp : plainOver K C = true) (ht : takerIn K C name = some none) (hh : hasDictIn K C = true) :
    SetA prog w h₀ name (putD C name) := by
  intro A env ρ₀ v c u cu hv hu s ρ σ e rr x σ' hd' Q E kk
  refine (let Gol : Prop := _; (?_ : Gol))
  refine  bind_k hd' fun p σ₁ e1 hd1 => ?_
  refine  bind_k hd1 fun kvs σ₂ e2 hd2 => ?_
  obtain ⟨rfl, q1, rfl⟩ := instD_some e1
  obtain ⟨q2, rfl⟩ := dictD_some e2
  split at hd2
  · rename_i q4
    cases hd2
    refine  instAt_k rr.hp q1 fun a b cs od p1 p2 I p3 p4 => ?_
    refine  getK_k rr.hp q2 fun b' p5 hy11 => ?_
    obtain ⟨es, n, p6, p7⟩ := hy11
    rw [p2] at p5; cases p5
    rw [p4] at p6; cases p6
    try (unfold Gol; clear Gol)
    rw [(hv.ext e).eq_ref p1]
    have X := G.X.keeps rr.hp.keep
    have D' := Heap.get?_update_self (Obj.putName name (PyData.keyHash w.params name) (.str name (s.toks + 1)) cu) p4 (by rw [putName_dict]; rfl)
    rw [putName_dict] at D'
    have hS := Heap.SameBut.update s.heap b (Obj.putName name (PyData.keyHash w.params name) (.str name (s.toks + 1)) cu)
    refine set_plain X I hs (osa_dictM (s := { s with toks := s.toks + 1 }) (od' := dictOf _ _) p4 X I rfl hp ht hh (by show (getL name es).isSome = true; exact p7.told name) D' rfl ?_ ?_)
    · have := (p7.put (hu.ext e) (PyData.keyHash w.params name) (s.toks + 1) (x := name)).length
      have := storS_length name u kvs
      omega
    · have r2 := rr.upd (o := .sdict (storS kvs name u)) p2 hS.extBut ⟨_, _, D', p7.put (hu.ext e) _ _⟩
      exact kk () _ _ ρ trivial r2 (.upd (List.mem_iff_getElem?.mpr ⟨_, p2⟩) hS.extBut)
  · exact (fail_some (σ := σ₂) hd2).elim
theorem set_S (G : Gnd K h₀) {C p : Addr} {name : Str} {j : Nat} (hs : findIn K (.ref C) "__setattr__" = some (some (.builtin "object.__setattr__"))) (hp : plainOver K C = true) (ht : takerIn K C name = some (some (.ref p)))
    (hT : typeIn K (.ref p) = some (.type "member_descriptor")) (hi : slotIn K p C = some j) (hz : j < 1000) : SetA prog w h₀ name (setSlD C j) := by
  intro A env ρ₀ v c u cu hv hu s ρ σ e rr x σ' hd' Q E kk
  refine (let Gol : Prop := _; (?_ : Gol))
  refine  bind_k hd' fun q σ₁ e1 hd1 => ?_
  obtain ⟨rfl, q1, rfl⟩ := instD_some e1
  cases hd1
  refine  instAt_k rr.hp q1 fun a b cs od p1 p2 I p3 p4 => ?_
  try (unfold Gol; clear Gol)
  rw [(hv.ext e).eq_ref p1]
  have X := G.X.keeps rr.hp.keep
  have hS := Heap.SameBut.update s.heap a (fun o => { o with slots := (o.slots ++ Array.replicate (j + 1 - o.slots.size) none).setIfInBounds j (some cu) })
  have D' := Heap.get?_update_self (fun o => { o with slots := (o.slots ++ Array.replicate (j + 1 - o.slots.size) none).setIfInBounds j (some cu) }) I.at_ rfl
  refine set_plain X I hs (osa_descr (s := { s with toks := s.toks + 1 }) KF.slot_mset X I hp ht hT (slot_setM (s := { s with toks := s.toks + 1 }) X I hi hz ?_))
  try clear Gol
  have r2 := rr.upd (o := .inst C q.2.1 (setSl q.2.2 j u)) p1 hS.extBut ⟨b, _, p2, D', ?_⟩
  · exact kk () _ _ ρ trivial r2 (.upd (List.mem_iff_getElem?.mpr ⟨_, p1⟩) hS.extBut)
  · have hl : cs.size = q.2.2.length := by rw [← vos_length p3]; simp
    have := vos_set (vos_pad p3 (j + 1 - q.2.2.length)) (hu.ext e) j
    try (unfold Gol; clear Gol)
    simp only [Array.toList_setIfInBounds, Array.toList_append, Array.toList_replicate, hl]
    exact this

theorem e_attr {o : Expr} {name : Str} {pos : Pos} {d : M AVal} {D : AVal → M AVal} (h : SimE prog w h₀ hd k sc o d) (hG : GetA prog w h₀ name D)
    (he : ∀ env, eval (.Attribute o name pos) env = (do
      let ov ← eval o env
      standAt pos.atName
      let r ← holding [ov] (getAttr ov name true)
      letTemporaryGo o ov r
      pure r) := by intro _; with_unfolding_all rfl) : SimE prog w h₀ hd k sc (.Attribute o name pos) (do let v ← d; D v) := by
  intro A env ρ₀ ha hE s ρ σ e rr v σ' hd' Q E kk
  refine  bind_k hd' fun a σ₁ e1 e2 => ?_
  refine Attribute_any_ (h A env ρ₀ ha hE s ρ σ e rr a σ₁ e1 _ _ fun c h₁ tk₁ ρ₁ R₁ r₁ st₁ => ?_) (he env)
  exact hG A env ρ₁ a c true R₁ _ ρ₁ σ₁ (.refl _) r₁ v σ' e2 _ _ fun c₂ h₂ tk₂ ρ₂ R₂ r₂ st₂ => kk c₂ h₂ tk₂ ρ₂ R₂ r₂ (r₂.trans st₁ st₂)
theorem s_setAttr {o value : Expr} {name : Str} {pos' pos : Pos} {do' dv : M AVal} {D : AVal → AVal → M Unit} (hv : SimE prog w h₀ hd k sc value dv) (ho : SimE prog w h₀ hd k sc o do') (hS : SetA prog w h₀ name D)
    (hs : ∀ env, swapsWith value (some (.Attribute o name pos')) pos.line env = pure false := by intro _; rfl) : SimS prog w h₀ hd k sc (.Assign [.Attribute o name pos'] value pos) (do let u ← dv; let v ← do'; D v u; pure .next) := by
  intro A env ρ₀ ha hE s ρ σ e rr f σ' hd' Q E kk
  refine  bind_k hd' fun u σ₁ e1 hd1 => ?_
  refine  bind_k hd1 fun v σ₂ e2 hd2 => ?_
  refine  bind_k hd2 fun _ σ₃ e3 e4 => ?_
  obtain ⟨rfl, rfl⟩ := pure_some e4
  refine plainObj_wpAny_Assign_Attribute (hv A env ρ₀ ha hE s ρ σ e rr u σ₁ e1 _ _ fun cu h₁ tk₁ ρ₁ R₁ r₁ st₁ => ?_) (hs env)
  try clear Gol
  refine ho A env ρ₁ ha hE _ ρ₁ σ₁ (.refl _) r₁ v σ₂ e2 _ _ fun cv h₂ tk₂ ρ₂ R₂ r₂ st₂ => ?_
  try clear Gol
  exact hS A env ρ₂ v cv u cu R₂ (R₁.ext st₂.ext) _ ρ₂ σ₂ (.refl _) r₂ () σ' e3 _ _ fun _ h₃ tk₃ ρ₃ _ r₃ st₃ => kk .next h₃ tk₃ ρ₃ rfl r₃ (r₃.trans (r₂.trans st₁ st₂) st₃)
noncomputable def InSim (prog : Program) (w : World) (h₀ : Heap) (hd : Bool) (k : Nat) (op : Operator) (dop : AVal → AVal → M AVal) : Prop :=
  ∀ A env ρ a b ca cb, AOk hd k A → VR ρ a ca → VR ρ b cb → Sim prog w h₀ A env ρ (inplaceOp op ca cb) VR (dop a b)
theorem in_ints {op : Operator} {f : Int → Int → Option Int} (h : ∀ (A : Around) (s : Shared) (Q : Value → Shared → Prop) (E : Value → Shared → Prop) (a b z : Int) (t u : Tok), f a b = some z → Q (.int z s.toks) { s with toks := s.toks + 1 } → wpAny (model prog w) A (inplaceOp op (.int a t) (.int b u)) Q E s) :
    InSim prog w h₀ hd k op (intsA f) := by
  intro A env ρ a b ca cb hA ha hb s ρ' σ e r v σ' hd' Q E kk
  refine (let Gol : Prop := _; (?_ : Gol))
  cases a with
  | int a =>
    cases b with
    | int b =>
      obtain ⟨t, rfl⟩ := ha
      obtain ⟨u, rfl⟩ := hb
      cases q : f a b with
      | none => simp only [intsA, q] at hd'; exact (fail_some (σ := σ) hd').elim
      | some z =>
        simp only [intsA, q] at hd'
        obtain ⟨rfl, rfl⟩ := pure_some hd'
        exact h A s Q E a b z t u q (kk _ s.heap _ ρ' ⟨_, rfl⟩ r (.refl ..))
    | _ => exact (fail_some (σ := σ) hd').elim
  | _ => cases b <;> exact (fail_some (σ := σ) hd').elim
theorem in_add : InSim prog w h₀ hd k .Add (intsA fAdd) := in_ints fun A s Q E a b z t u e q => by cases e; exact PySem.AutoIntOps.iadd_0 q
theorem in_sub : InSim prog w h₀ hd k .Sub (intsA fSub) := in_ints fun A s Q E a b z t u e q => by cases e; exact PySem.AutoIntOps.isub_0 q
theorem s_augAttr {o value : Expr} {name : Str} {op : Operator} {tpos pos : Pos} {do' dv : M AVal} {D : AVal → M AVal} {D' : AVal → AVal → M Unit} {dop : AVal → AVal → M AVal} (ho : SimE prog w h₀ hd k sc o do') (hG : GetA prog w h₀ name D)
    (hv : SimE prog w h₀ hd k sc value dv) (hop : InSim prog w h₀ hd k op dop) (hS : SetA prog w h₀ name D') :
    SimS prog w h₀ hd k sc (.AugAssign (.Attribute o name tpos) op value pos) (do let v ← do'; let a ← D v; let b ← dv; let z ← dop a b; D' v z; pure .next) := by
  intro A env ρ₀ ha hE s ρ σ e rr f σ' hd' Q E kk
  refine  bind_k hd' fun v σ₁ e1 hd1 => ?_
  refine  bind_k hd1 fun a σ₂ e2 hd2 => ?_
  refine  bind_k hd2 fun b σ₃ e3 hd3 => ?_
  refine  bind_k hd3 fun z σ₄ e4 hd4 => ?_
  refine  bind_k hd4 fun _ σ₅ e5 e6 => ?_
  obtain ⟨rfl, rfl⟩ := pure_some e6
  refine wpAny_AugAssign_AttributeAny (ho A env ρ₀ ha hE s ρ σ e rr v σ₁ e1 _ _ fun cv h₁ tk₁ ρ₁ R₁ r₁ st₁ => ?_)
  try clear Gol
  refine hG A env ρ₁ v cv true R₁ _ ρ₁ σ₁ (.refl _) r₁ a σ₂ e2 _ _ fun ca h₂ tk₂ ρ₂ R₂ r₂ st₂ => ?_
  try clear Gol
  refine hv A env ρ₂ ha hE _ ρ₂ σ₂ (.refl _) r₂ b σ₃ e3 _ _ fun cb h₃ tk₃ ρ₃ R₃ r₃ st₃ => ?_
  try clear Gol
  refine hop A env ρ₃ a b ca cb ha (R₂.ext st₃.ext) R₃ _ ρ₃ σ₃ (.refl _) r₃ z σ₄ e4 _ _ fun cz h₄ tk₄ ρ₄ R₄ r₄ st₄ => ?_
  try clear Gol
  exact hS A env ρ₄ v cv z cz (((R₁.ext st₂.ext).ext st₃.ext).ext st₄.ext) R₄ _ ρ₄ σ₄ (.refl _) r₄ () σ' e5 _ _ fun _ h₅ tk₅ ρ₅ _ r₅ st₅ => kk .next h₅ tk₅ ρ₅ rfl r₅ (r₅.trans (r₄.trans (r₃.trans (r₂.trans st₁ st₂) st₃) st₄) st₅)
end
end Mine
end

section
open PySem PySem.W PyProof.Rows
set_option autoImplicit false
set_option linter.unusedVariables false
set_option maxRecDepth 100000
namespace Mine

/-! binding of arguments -/
section
variable {prog : Program} {w : World} {h₀ : Heap} {hd : Bool} {k : Nat} {sc : Scope} {K : Frag} {fd : FuncData}
noncomputable def bd1 (x : Str) (vs : List AVal) (H : List AObj) : Option (List (Str × AVal) × List AObj) := match vs with
  | [a] => some ([(x, a)], H)
  | _ => none
noncomputable def bd2 (x y : Str) (vs : List AVal) (H : List AObj) : Option (List (Str × AVal) × List AObj) := match vs with
  | [a, b] => some ([(x, a), (y, b)], H)
  | _ => none
noncomputable def bdR (x y z : Str) (dflt : AVal) (vs : List AVal) (H : List AObj) : Option (List (Str × AVal) × List AObj) := match vs with
  | [a, b] => some ([(x, a), (y, b), (z, dflt)], H)
  | [a, b, c] => some ([(x, a), (y, b), (z, c)], H)
  | _ => none
noncomputable def bdS1 (x z : Str) (vs : List AVal) (H : List AObj) : Option (List (Str × AVal) × List AObj) := match vs with
  | a :: rest => if rest.length ≤ 1000 then some ([(x, a), (z, .ref H.length)], H ++ [.tuple rest]) else none
  | _ => none
noncomputable def bdS2 (x y z : Str) (vs : List AVal) (H : List AObj) : Option (List (Str × AVal) × List AObj) := match vs with
  | a :: b :: rest => if rest.length ≤ 1000 then some ([(x, a), (y, b), (z, .ref H.length)], H ++ [.tuple rest]) else none
  | _ => none
theorem VRs.cons' {ρ : Rho} {v : AVal} {vs : List AVal} {cs : List Value} (h : VRs ρ (v :: vs) cs) : ∃ c ds, cs = c :: ds ∧ VR ρ v c ∧ VRs ρ vs ds := by
  cases h with
  | cons a b => exact ⟨_, _, rfl, a, b⟩
theorem bs1 {x : Str} {vs : List AVal} (h : ∀ c, bindArgs fd ⟨[c], []⟩ = pure [(x, c)]) : BindSim prog w h₀ fd vs (bd1 x vs) := by
  intro A s ρ H cs r hvs l H' hd' Q E kk
  refine (let Gol : Prop := _; (?_ : Gol))
  obtain ⟨a, hq⟩ := args1 (F := fun vs => bd1 x vs H) hd' rfl (fun _ _ _ => rfl)
  subst hq
  cases hd'
  obtain ⟨c, rfl, hc⟩ := hvs.one
  try (unfold Gol; clear Gol)
  rw [h]
  exact wpAny_pure (kk _ s.heap s.toks ρ (.cons hc .nil) r (.refl ..))
theorem bs2 {x y : Str} {vs : List AVal} (h : ∀ c d, bindArgs fd ⟨[c, d], []⟩ = pure [(x, c), (y, d)]) : BindSim prog w h₀ fd vs (bd2 x y vs) := by
  intro A s ρ H cs r hvs l H' hd' Q E kk
  refine (let Gol : Prop := _; (?_ : Gol))
  obtain ⟨a, b, hq⟩ := args2 (F := fun vs => bd2 x y vs H) hd' rfl (fun _ => rfl) (fun _ _ _ _ => rfl)
  subst hq
  cases hd'
  obtain ⟨c, d, rfl, hc, hdd⟩ := hvs.two
  try (unfold Gol; clear Gol)
  rw [h]
  exact wpAny_pure (kk _ s.heap s.toks ρ (.cons hc (.cons hdd .nil)) r (.refl ..))
theorem tuple_new {A : Around} {s : Shared} {ρ : Rho} {H : List AObj} (r : RelH prog w h₀ ρ H s.heap) {vs : List AVal} {cs : List Value} (hv : VRs ρ vs cs) (hl : vs.length ≤ 1000) {Q : Value → Shared → Prop} {E : Value → Shared → Prop}
    (kk : ∀ a h', VR (ρ ++ [a]) (.ref H.length) (.ref a) → RelH prog w h₀ (ρ ++ [a]) (H ++ [.tuple vs]) h' → Step (fun _ => False) ρ (ρ ++ [a]) s.heap h' → Q (.ref a) { s with heap := h' }) :
    wpAny (model prog w) A (newTuple cs) Q E s := by
  unfold newTuple
  refine wpAny_newObj_type ?_ (by show cs.toArray.size ≤ sizeLine; rw [List.size_toArray, hv.length]; have := size_1000; omega)
  have hk : ∀ b o', s.heap.get? b = some o' → (s.heap.push { cls := .type "tuple", dict := none, data := .seq cs.toArray }).get? b = some o' := fun b o' e => Heap.get?_push_of_some _ e
  refine kk _ _ ⟨_, ?_, rfl⟩ (r.grow hk (Nat.le_refl _) ⟨_, _, Heap.get?_push_size _ rfl, by simpa using hv.ext (Ext.snoc _ _)⟩) (.grow hk (free_of_ge (Nat.le_refl _)))
  rw [← r.len, List.getElem?_append_right (Nat.le_refl _)]; simp
theorem bsS1 {x z : Str} {vs : List AVal} (h : ∀ c rest, bindArgs fd ⟨c :: rest, []⟩ = (do let t ← newTuple rest; pure [(x, c), (z, t)])) : BindSim prog w h₀ fd vs (bdS1 x z vs) := by
  intro A s ρ H cs r hvs l H' hd' Q E kk
  refine (let Gol : Prop := _; (?_ : Gol))
  cases vs with
  | nil => cases hd'
  | cons a rest =>
    try (unfold Gol; clear Gol)
    by_cases hl : rest.length ≤ 1000
    · rw [show bdS1 x z (a :: rest) H = some ([(x, a), (z, .ref H.length)], H ++ [.tuple rest]) from if_pos hl] at hd'
      cases hd'
      obtain ⟨c, ds, rfl, hc, hds⟩ := hvs.cons'
      try (unfold Gol; clear Gol)
      rw [h]
      exact wpAny_bind (tuple_new r hds hl fun b h' hv r' st => wpAny_pure (kk _ h' s.toks _ (.cons (hc.ext st.ext) (.cons hv .nil)) r' st))
    · rw [show bdS1 x z (a :: rest) H = none from if_neg hl] at hd'
      cases hd'
theorem bsS2 {x y z : Str} {vs : List AVal} (h : ∀ c d rest, bindArgs fd ⟨c :: d :: rest, []⟩ = (do let t ← newTuple rest; pure [(x, c), (y, d), (z, t)])) : BindSim prog w h₀ fd vs (bdS2 x y z vs) := by
  intro A s ρ H cs r hvs l H' hd' Q E kk
  refine (let Gol : Prop := _; (?_ : Gol))
  cases vs with
  | nil => cases hd'
  | cons a rest => cases rest with
   | nil => cases hd'
   | cons b rest =>
    try (unfold Gol; clear Gol)
    by_cases hl : rest.length ≤ 1000
    · rw [show bdS2 x y z (a :: b :: rest) H = some ([(x, a), (y, b), (z, .ref H.length)], H ++ [.tuple rest]) from if_pos hl] at hd'
      cases hd'
      obtain ⟨c, ds, rfl, hc, hds⟩ := hvs.cons'
      obtain ⟨d, es, rfl, hc2, hes⟩ := hds.cons'
      try (unfold Gol; clear Gol)
      rw [h]
      exact wpAny_bind (tuple_new r hes hl fun b h' hv r' st => wpAny_pure (kk _ h' s.toks _ (.cons (hc.ext st.ext) (.cons (hc2.ext st.ext) (.cons hv .nil))) r' st))
    · rw [show bdS2 x y z (a :: b :: rest) H = none from if_neg hl] at hd'
      cases hd'

/-! own methods, own classes, starred arguments -/
noncomputable def methD (C : Addr) (name : Str) (v : AVal) : M Unit := do
  let p ← instD C v
  let kvs ← dictD p.2.1
  match lookS kvs name with
  | none => pure ()
  | some _ => fail
theorem call_meth (G : Gnd K h₀) {o : Expr} {name : Str} {es : List Expr} {apos pos : Pos} {pl : Env → Sem Bool} {C f : Addr} {oc : Value} {od : Option Addr} {osl : Array (Option Value)} {do' : M AVal} {dargs : M (List AVal)} {D : List AVal → List AObj → Option (AVal × List AObj)}
    (ho : K.lookup f = some ⟨oc, od, .func fd, osl⟩) (hg : plainGet K C name = true) (hf : findIn K (.ref C) name = some (some (.ref f))) (ht : isFn K (.ref f) = true)
    (hO : SimE prog w h₀ true k sc o do') (hG : SimG prog w h₀ true k sc es dargs) (hF : ∀ vs, SimF prog w h₀ k (.ref f) vs (D vs))
    (hc : ∀ env, eval (.Call (.Attribute o name apos) es [] pos) env = (do
      let ov ← eval o env
      standAt apos.atName
      let (f, first) ← holding [ov] (getMethod ov name (pl env))
      callWith pos f first (backTo pos (starEach es env)) []) := by intro _; rfl) :
    SimE prog w h₀ true k sc (.Call (.Attribute o name apos) es [] pos) (do let v ← do'; methD C name v; let vs ← dargs; onH (D (v :: vs))) := by
  intro A env ρ₀ ha he s ρ σ e₀ rr v σ' hd' Q E kk
  refine (let Gol : Prop := _; (?_ : Gol))
  refine  bind_k hd' fun ov σ₁ e1 hd1 => ?_
  refine  bind_k hd1 fun _ σ₂ e2 hd2 => ?_
  refine  bind_k hd2 fun vs σ₃ e3 e4 => ?_
  obtain ⟨H', e5, rfl⟩ := onH_some e4
  refine  bind_k e2 fun p σ₄ e6 hd3 => ?_
  refine  bind_k hd3 fun kvs σ₅ e7 e8 => ?_
  obtain ⟨rfl, q1, rfl⟩ := instD_some e6
  obtain ⟨q2, rfl⟩ := dictD_some e7
  refine MethodCall_ (hO A env ρ₀ ha he s ρ σ e₀ rr _ _ e1 _ _ fun co h₁ tk₁ ρ₁ R₁ r₁ st₁ => ?_) (hc env)
  cases hq : lookS kvs name with
  | some _ => rw [hq] at e8; exact (fail_some (σ := σ₅) e8).elim
  | none =>
    rw [hq] at e8
    obtain ⟨_, rfl⟩ := pure_some e8
    refine  instAt_k r₁.hp q1 fun a b cs od' p1 p2 I p3 p4 => ?_
    refine  getK_k r₁.hp q2 fun b' p5 hy6 => ?_
    obtain ⟨es', n, p6, p7⟩ := hy6
    rw [p2] at p5; cases p5
    rw [p4] at p6; cases p6
    have R₁' := R₁.eq_ref p1
    subst R₁'
    refine method_fn (s := { s with heap := h₁, toks := tk₁ }) (G.X.keeps r₁.hp.keep) I (plainGet_of hg).1 (plainGet_of hg).2 hf (beq_iff_eq.mp ht) (by show (lookIn name (dictOf es' n)).map _ = _; rw [lookIn_dict, p7.miss hq]; rfl) ?_
    try clear Gol
    refine Calls.callWith_function (o := ⟨oc, od, .func fd, osl⟩) (fd := fd) (hG A env ρ₁ pos (.ref f) ha he _ ρ₁ _ (.refl _) r₁ vs σ₃ e3 _ _ fun ar h₂ tk₂ ρ₂ R₂ r₂ st₂ => ?_)
    try clear Gol
    refine (let Gol : Prop := _; (?_ : Gol))
    obtain ⟨cs', rfl, hcs⟩ := R₂
    refine ⟨⟨r₂.hp.keep _ _ (G.X _ _ ho), rfl⟩, wpAny_call (hF _ A _ ρ₂ σ₃.H _ ha r₂.hp r₂.fo (.cons (R₁.ext st₂.ext) hcs) v H' e5 _ fun c h₃ tk₃ ρ₃ hv r₃ st₃ => ?_)⟩
    obtain ⟨r₃', st₃'⟩ := r₂.called r₃ st₃
    exact kk c h₃ tk₃ ρ₃ hv r₃' (r₃'.trans (r₂.trans st₁ st₂) st₃')

noncomputable def newD (C : Addr) (D : List AVal → List AObj → Option (AVal × List AObj)) (vs : List AVal) (H : List AObj) : Option (AVal × List AObj) :=
  (D (.ref (H.length + 1) :: vs) (H ++ [.sdict []] ++ [.inst C H.length []])).bind fun p => match p.1 with
    | .none => some (.ref (H.length + 1), p.2)
    | _ => none
theorem under_frames (A : Around) (C : Addr) (vals : List Value) : (A.under (.builtin "type.__call__" ⟨.ref C :: vals, []⟩)).frames = A.frames := by
  obtain ⟨hd, d, fr, gs, u⟩ := A
  cases fr <;> rfl
theorem AOk.under {hd : Bool} {k : Nat} {A : Around} (h : AOk hd (k + 1) A) (C : Addr) (vals : List Value) : AOk hd k (A.under (.builtin "type.__call__" ⟨.ref C :: vals, []⟩)) :=
  ⟨h.handled, by have := h.depth; rw [depth_under_kw]; omega, by
    have := h.units
    have e : (A.under (.builtin "type.__call__" ⟨.ref C :: vals, []⟩)).units ≤ A.units + 10 := by
      show A.units + _ ≤ _
      refine Nat.add_le_add_left (show 1 + 3 * (Code.builtin "type.__call__" ⟨.ref C :: vals, []⟩).frames ≤ 10 from ?_) _
      have : (Code.builtin "type.__call__" ⟨.ref C :: vals, []⟩).frames = 0 := by rfl
      rw [this]; decide
    omega⟩
theorem new_cls (G : Gnd K h₀) {C fI : Addr} {D : List AVal → List AObj → Option (AVal × List AObj)} {vs : List AVal} (hm : makesIn K C = true) (hi : findIn K (.ref C) "__init__" = some (some (.ref fI))) (hf : isFn K (.ref fI) = true)
    (hF : ∀ vs, SimF prog w h₀ k (.ref fI) vs (D vs)) : SimF prog w h₀ (k + 1) (.ref C) vs (newD C D vs) := by
  intro A s ρ H cs ha r hfo hvs v H' hd' R kk
  refine (let Gol : Prop := _; (?_ : Gol))
  obtain ⟨⟨v', H₁⟩, e1, e2⟩ := Option.bind_eq_some_iff.mp hd'
  cases v' with
  | none =>
    cases e2
    obtain ⟨hh, g, d, t, os⟩ := s
    have X := G.X.keeps r.keep
    refine make_core (makes_of X hm) (looks_findIn X hi) (fun self => bind_fn X self (beq_iff_eq.mp hf)) (.inl rfl) ?_
    try clear Gol
    have k1 : ∀ b o', hh.get? b = some o' → (hh.push emptyDict).get? b = some o' := fun b o' e => Heap.get?_push_of_some _ e
    have k2 : ∀ b o', (hh.push emptyDict).get? b = some o' → ((hh.push emptyDict).push (instObj C hh.objs.size)).get? b = some o' := fun b o' e => Heap.get?_push_of_some _ e
    have s1 : (hh.push emptyDict).objs.size = hh.objs.size + 1 := Heap.size_push ..
    have r1 : RelH prog w h₀ (ρ ++ [hh.objs.size]) (H ++ [.sdict []]) (hh.push emptyDict) := r.grow k1 (Nat.le_refl _) ⟨[], _, Heap.get?_push_size _ rfl, .nil⟩
    have l1 : (ρ ++ [hh.objs.size])[H.length]? = some hh.objs.size := by rw [← r.len, List.getElem?_append_right (Nat.le_refl _)]; simp
    have r2 : RelH prog w h₀ (ρ ++ [hh.objs.size] ++ [hh.objs.size + 1]) (H ++ [.sdict []] ++ [.inst C H.length []]) ((hh.push emptyDict).push (instObj C hh.objs.size)) := by
      refine r1.grow k2 (by rw [s1]; exact Nat.le_refl _) ⟨_, _, Ext.snoc _ _ _ _ l1, ?_, .nil⟩
      have := Heap.get?_push_size (hh.push emptyDict) (o := instObj C hh.objs.size) rfl
      rw [s1] at this
      exact this
    have l2 : (ρ ++ [hh.objs.size] ++ [hh.objs.size + 1])[H.length + 1]? = some (hh.objs.size + 1) := by
      have : (ρ ++ [hh.objs.size]).length = H.length + 1 := by simp [r.len]
      try (unfold Gol; clear Gol)
      rw [← this, List.getElem?_append_right (Nat.le_refl _)]; simp
    have st1 : Step (fun _ => False) ρ (ρ ++ [hh.objs.size]) hh (hh.push emptyDict) := .grow k1 (free_of_ge (Nat.le_refl _))
    have st2 : Step (fun _ => False) (ρ ++ [hh.objs.size]) (ρ ++ [hh.objs.size] ++ [hh.objs.size + 1]) (hh.push emptyDict) ((hh.push emptyDict).push (instObj C hh.objs.size)) := .grow k2 (free_of_ge (by rw [s1]; exact Nat.le_refl _))
    have st := st1.trans st2 fun _ q => q.elim
    refine hF _ _ _ _ _ _ (ha.under C cs) r2 (by rw [under_frames]; exact hfo.step st) (VRs.cons (v := .ref (H.length + 1)) ⟨_, l2, rfl⟩ (hvs.ext st.ext)) _ _ e1 _ fun c h₃ tk₃ ρ₃ hv r₃ st₃ => ?_
    try clear Gol
    exact ⟨hv, kk _ h₃ tk₃ ρ₃ ⟨_, st₃.ext _ _ l2, rfl⟩ r₃ (st.trans st₃ fun _ q => q.elim)⟩
  | _ => cases e2
theorem call_new (G : Gnd K h₀) {func : Expr} {es : List Expr} {pos : Pos} {C : Addr} {dargs : M (List AVal)} {D : List AVal → List AObj → Option (AVal × List AObj)}
    (hk : keepIn K (.ref C) = true) (hf : SimE prog w h₀ true k sc func (pure (.stat (.ref C)))) (hg : SimG prog w h₀ true k sc es dargs) (hF : ∀ vs, SimF prog w h₀ k (.ref C) vs (D vs))
    (hp : ∀ env, (backTo pos (starEach es env)).any (·.1) = false := by intro _; rfl)
    (hc : ∀ env, eval (.Call func es [] pos) env = (do callWith pos (← eval func env) [] (backTo pos (starEach es env)) (backToKw pos (keywordEach [] env))) := by intro _; rfl) :
    SimE prog w h₀ true k sc (.Call func es [] pos) (do let vs ← dargs; onH (D vs)) := by
  intro A env ρ₀ ha he s ρ σ e₀ rr v σ' hd' Q E kk
  refine (let Gol : Prop := _; (?_ : Gol))
  refine  bind_k hd' fun vs σ₁ e1 e2 => ?_
  obtain ⟨H', e3, rfl⟩ := onH_some e2
  refine Call_ (hf A env ρ₀ ha he s ρ σ e₀ rr _ σ rfl _ _ fun c h₁ tk₁ ρ₁ R₁ r₁ st₁ => ?_) (hc env)
  have R₁' : c = .ref C := R₁
  subst R₁'
  refine callWith_of (P := fun h => K.In h) (by rw [hp env]; rfl) (keeps_K hk) (hg A env ρ₀ pos (.ref C) ha he _ ρ₁ σ (e₀.trans st₁.ext) r₁ vs σ₁ e1 _ _ fun a h₂ tk₂ ρ₂ R₂ r₂ st₂ => ?_)
  try clear Gol
  refine (let Gol : Prop := _; (?_ : Gol))
  obtain ⟨cs, rfl, hcs⟩ := R₂
  refine ⟨G.X.keeps r₂.hp.keep, wpAny_call (hF vs A _ ρ₂ σ₁.H cs ha r₂.hp r₂.fo hcs v H' e3 _ fun c h₃ tk₃ ρ₃ hv r₃ st₃ => ?_)⟩
  obtain ⟨r₃', st₃'⟩ := r₂.called r₃ st₃
  exact kk c h₃ tk₃ ρ₃ hv r₃' (r₃'.trans (r₂.trans st₁ st₂) st₃')

/-- what a star gives -/
noncomputable def starD (v : AVal) : M (List AVal) := match v with
  | .ref i => do
    match ← getO i with
    | .list vs => if vs.length ≤ 1000 then pure vs else fail
    | .tuple vs => if vs.length ≤ 1000 then pure vs else fail
    | _ => fail
  | _ => fail
theorem star_of {A : Around} {env : Env} {s : Shared} {ρ : Rho} {σ σ' : St} {v : AVal} {vs : List AVal} {c : Value} (rr : Rel prog w h₀ A.frames env ρ σ s.heap) (hv : VR ρ v c) (h : starD v σ = some (vs, σ')) {Q : List Value → Shared → Prop} {E : Value → Shared → Prop}
    (kk : ∀ cs h', VRs ρ vs cs → Rel prog w h₀ A.frames env ρ σ h' → σ' = σ → Step (Fa env) ρ ρ s.heap h' → Q cs { s with heap := h' }) : StarOf (model prog w) A E c Q s := by
  have fin : ∀ (i : Nat) (T : String) (a : Addr) (its : Array Value) (n : Nat) (us : List AVal), v = .ref i → (T = "list" ∨ T = "tuple") → ρ[i]? = some a → s.heap.get? a = some { cls := .type T, data := .seq its n } → VRs ρ us its.toList → us.length ≤ 1000 → vs = us → σ' = σ →
      StarOf (model prog w) A E c Q s := by
    rintro i T a its n us rfl hT p1 D p3 hl rfl rfl
    rw [hv.eq_ref p1]
    have hsz : its.size ≤ sizeLine := by
      have : its.size = vs.length := by rw [← p3.length]; simp
      have := size_1000
      omega
    have hT' : s.TypeIs (.ref a) T := ⟨_, D, rfl⟩
    have z : wpAny (model prog w) A (collect (.ref a)) Q E s := wpAny_collect_seq a hT D rfl rfl (fun h' hk => kk _ h' p3 (rr.same hk) rfl (.same hk)) hsz
    unfold StarOf notIterableAtAll
    rcases hT with rfl | rfl
    · exact wpAny_bind (wpAny_specialOf hT' PySem.F.slot_list_iter.lookup (wpAny_pure ⟨rfl, z⟩))
    · exact wpAny_bind (wpAny_specialOf hT' PySem.F.slot_tuple_iter.lookup (wpAny_pure ⟨rfl, z⟩))
  cases v with
  | ref i =>
    refine  bind_k h fun o σ₁ e1 e2 => ?_
    obtain ⟨e3, rfl⟩ := getO_some e1
    cases o with
    | list us =>
      simp only at e2
      split at e2
      · rename_i hl
        obtain ⟨rfl, rfl⟩ := pure_some e2
        refine  listAt_k rr.hp e3 fun a its n p1 p2 p3 p4 => ?_
        exact fin i "list" a its n _ rfl (.inl rfl) p1 p2 p3 hl rfl rfl
      · exact (fail_some (σ := σ₁) e2).elim
    | tuple us =>
      simp only at e2
      split at e2
      · rename_i hl
        obtain ⟨rfl, rfl⟩ := pure_some e2
        refine  getK_k rr.hp e3 fun a p1 hy9 => ?_
        obtain ⟨its, n, p2, p3⟩ := hy9
        exact fin i "tuple" a its n _ rfl (.inr rfl) p1 p2 p3 hl rfl rfl
      · exact (fail_some (σ := σ₁) e2).elim
    | _ => exact (fail_some (σ := σ₁) e2).elim
  | _ => exact (fail_some (σ := σ) h).elim
theorem a_star {e : Expr} {p : Pos} {rest : List Expr} {d : M AVal} {d' : M (List AVal)} (h : SimE prog w h₀ hd k sc e d) (h' : SimA prog w h₀ hd k sc rest d')
    (hse : ∀ env, starEach (.Starred e p :: rest) env = (true, eval e env) :: starEach rest env := by intro _; rfl) :
    SimA prog w h₀ hd k sc (.Starred e p :: rest) (do let v ← d; let us ← starD v; let vs ← d'; pure (us ++ vs)) := by
  intro A env ρ₀ pos ha he s ρ σ e₀ rr v σ' hd' Q E kk
  refine  bind_k hd' fun a σ₁ e1 hd1 => ?_
  refine  bind_k hd1 fun us σ₂ e2 hd2 => ?_
  refine  bind_k hd2 fun as σ₃ e3 e4 => ?_
  obtain ⟨rfl, rfl⟩ := pure_some e4
  refine items_star (h A env ρ₀ ha he s ρ σ e₀ rr a σ₁ e1 _ _ fun c h₁ tk₁ ρ₁ R₁ r₁ st₁ => ?_) (hse env)
  refine star_of r₁ R₁ e2 fun cs h₂ hcs r₂ hσ st₂ => ?_
  try clear Gol
  subst hσ
  have st12 := r₂.trans st₁ st₂
  exact h' A env ρ₁ pos ha he _ ρ₁ _ (.refl _) r₂ as σ' e3 _ _ fun ds h₃ tk₃ ρ₃ R₃ r₃ st₃ => kk (cs ++ ds) h₃ tk₃ ρ₃ ((hcs.ext st₃.ext).append R₃) r₃ (r₃.trans st12 st₃)
theorem g_star {e : Expr} {p : Pos} {d : M AVal} (h : SimE prog w h₀ hd k sc e d)
    (hse : ∀ env, starEach [.Starred e p] env = [(true, eval e env)] := by intro _; rfl) : SimG prog w h₀ hd k sc [.Starred e p] (do let v ← d; starD v) := by
  intro A env ρ₀ pos f ha he s ρ σ e₀ rr v σ' hd' Q E kk
  refine  bind_k hd' fun a σ₁ e1 e2 => ?_
  try (unfold Gol; clear Gol)
  rw [hse env]
  refine ks_lone (h A env ρ₀ ha he s ρ σ e₀ rr a σ₁ e1 _ _ fun c h₁ tk₁ ρ₁ R₁ r₁ st₁ => ?_)
  try clear Gol
  refine star_of r₁ R₁ e2 fun cs h₂ hcs r₂ hσ st₂ => ?_
  try clear Gol
  subst hσ
  exact kk _ h₂ tk₁ ρ₁ ⟨cs, rfl, hcs⟩ r₂ (r₂.trans st₁ st₂)
end
end Mine
end

section
open PySem PySem.W PyProof.Rows
set_option autoImplicit false
set_option linter.unusedVariables false
set_option maxRecDepth 100000
namespace Mine
section
variable {prog : Program} {w : World} {h₀ : Heap} {hd : Bool} {k : Nat} {sc : Scope} {K : Frag}

/-! what is never reached -/
/-! truth -/
noncomputable def truthA : AVal → M Bool
  | .bool b => pure b
  | .none => pure false
  | .ref i => do
    match ← getO i with
    | .list xs => if xs.length ≤ 1000 then pure (!xs.isEmpty) else fail
    | _ => fail
  | _ => fail
theorem VRs.isEmpty {ρ : Rho} {vs : List AVal} {cs : List Value} (h : VRs ρ vs cs) : cs.isEmpty = vs.isEmpty := by cases h <;> rfl
theorem truth_of {A : Around} {env : Env} {ρ₀ : Rho} {v : AVal} {c : Value} (hv : VR ρ₀ v c) : Sim prog w h₀ A env ρ₀ (truthy c) (fun _ b c => c = b) (truthA v) := by
  intro s ρ σ e rr b σ' hd' Q E kk
  refine (let Gol : Prop := _; (?_ : Gol))
  cases v with
  | bool x =>
    obtain ⟨rfl, rfl⟩ := pure_some hd'
    cases hv
    exact wpAny_truthy_bool (kk _ s.heap s.toks ρ rfl rr (.refl ..))
  | none =>
    obtain ⟨rfl, rfl⟩ := pure_some hd'
    cases hv
    exact fun _ _ _ => kk _ s.heap s.toks ρ rfl rr (.refl ..)
  | ref i =>
    refine  bind_k hd' fun o σ₁ e1 e2 => ?_
    obtain ⟨q1, rfl⟩ := getO_some e1
    cases o with
    | list xs =>
      simp only at e2
      split at e2
      · rename_i hl
        obtain ⟨rfl, rfl⟩ := pure_some e2
        refine  listAt_k rr.hp q1 fun a its n p1 p2 p3 p4 => ?_
        try (unfold Gol; clear Gol)
        rw [(hv.ext e).eq_ref p1]
        refine wpAny_truthy_list (IsL.isList p2) (by rw [p4]; omega) (kk _ s.heap _ ρ ?_ rr (.refl ..))
        have := p3.isEmpty
        try (unfold Gol; clear Gol)
        rw [← this]
        cases its; simp
      · exact (fail_some (σ := σ₁) e2).elim
    | _ => exact (fail_some (σ := σ₁) e2).elim
  | _ => exact (fail_some (σ := σ) hd').elim
theorem t_val {e : Expr} {d : M AVal} (h : SimE prog w h₀ hd k sc e d)
    (he : ∀ env whole, isTrue e env whole = (do let v ← whole; standAt e.pos; holding [v] (truthy v)) := by intro _ _; rfl) : SimT prog w h₀ hd k sc e (do let v ← d; truthA v) := by
  intro A env ρ₀ ha hE s ρ σ e₀ rr b σ' hd' Q E kk
  refine  bind_k hd' fun v σ₁ e1 e2 => ?_
  refine wpAny_isTrue_value (h A env ρ₀ ha hE s ρ σ e₀ rr v σ₁ e1 _ _ fun c h₁ tk₁ ρ₁ R₁ r₁ st₁ => ?_) (he env _)
  exact truth_of R₁ _ ρ₁ σ₁ (.refl _) r₁ b σ' e2 _ _ fun c₂ h₂ tk₂ ρ₂ R₂ r₂ st₂ => kk c₂ h₂ tk₂ ρ₂ R₂ r₂ (r₂.trans st₁ st₂)
theorem c_bool {b : Bool} {n : Nat} {pos : Pos} : SimE prog w h₀ hd k sc (.Constant (.bool b) n pos) (pure (.bool b)) := fun A env ρ₀ ha he =>
  Sim.leaf fun s ρ σ _ r Q E kk => fun _ _ _ => kk (.bool b) s.toks rfl

/-! or -/
theorem e_or2 {x y : Expr} {pos : Pos} {dx dy : M AVal} (hx : SimE prog w h₀ hd k sc x dx) (hy : SimE prog w h₀ hd k sc y dy) :
    SimE prog w h₀ hd k sc (.BoolOp .Or [x, y] pos) (do let v ← dx; if ← truthA v then pure v else dy) := by
  intro A env ρ₀ ha hE s ρ σ e₀ rr v σ' hd' Q E kk
  refine  bind_k hd' fun a σ₁ e1 hd1 => ?_
  refine  bind_k hd1 fun b σ₂ e2 hd2 => ?_
  refine wpAny_Or2 (hx A env ρ₀ ha hE s ρ σ e₀ rr a σ₁ e1 _ _ fun c h₁ tk₁ ρ₁ R₁ r₁ st₁ => ?_)
  try clear Gol
  refine truth_of R₁ _ ρ₁ σ₁ (.refl _) r₁ b σ₂ e2 _ _ fun c₂ h₂ tk₂ ρ₂ R₂ r₂ st₂ => ?_
  try clear Gol
  refine (let Gol : Prop := _; (?_ : Gol))
  have st12 := r₂.trans st₁ st₂
  have R₂' : c₂ = b := R₂
  subst R₂'
  cases c₂ with
  | true => obtain ⟨rfl, rfl⟩ := pure_some hd2; exact kk c h₂ tk₂ ρ₂ (R₁.ext st₂.ext) r₂ st12
  | false => exact hy A env ρ₂ ha hE _ ρ₂ σ₂ (.refl _) r₂ v σ' hd2 _ _ fun c₃ h₃ tk₃ ρ₃ R₃ r₃ st₃ => kk c₃ h₃ tk₃ ρ₃ R₃ r₃ (r₃.trans st12 st₃)

/-! := and x[i] = y = v -/
theorem e_named {x : Str} {px pos : Pos} {value : Expr} {d : M AVal} (h : SimE prog w h₀ hd k sc value d) (hx : sc.names.lookup x = some .local ∨ sc.names.lookup x = some .cell) :
    SimE prog w h₀ hd k sc (.NamedExpr (.Name x px) value pos) (do let v ← d; setV x v; pure v) := by
  intro A env ρ₀ ha hE s ρ σ e₀ rr v σ' hd' Q E kk
  refine  bind_k hd' fun a σ₁ e1 hd1 => ?_
  refine  bind_k hd1 fun _ σ₂ e2 e3 => ?_
  obtain ⟨rfl, rfl⟩ := pure_some e3
  refine wpAny_NamedExpr (h A env ρ₀ ha hE s ρ σ e₀ rr _ σ₁ e1 _ _ fun c h₁ tk₁ ρ₁ R₁ r₁ st₁ => ?_)
  try clear Gol
  exact bnd_name (k := k) (hd := hd) hx ha hE R₁ _ ρ₁ σ₁ (.refl _) r₁ () σ' e2 _ _ fun _ h₂ tk₂ ρ₂ _ r₂ st₂ => kk c h₂ tk₂ ρ₂ (R₁.ext st₂.ext) r₂ (r₂.trans st₁ st₂)
theorem s_assign2 {x : Str} {value o i : Expr} {px pos' pos : Pos} {dv do_ di : M AVal} (hv : SimE prog w h₀ hd k sc value dv) (ho : SimE prog w h₀ hd k sc o do_) (hi : SimE prog w h₀ hd k sc i di) (hx : sc.names.lookup x = some .local ∨ sc.names.lookup x = some .cell)
    (hA : ∀ env v, assign (.Subscript o i pos') env v = (do
      let ov ← holding [v] (eval o env)
      let iv ← holding [v, ov] (eval i env)
      standAt pos'
      holding [v, ov, iv] (setItem ov iv v)
      release [v, ov, iv] []) := by intro _ _; rfl)
    (he : ∀ env, (assignEach [.Subscript o i pos', .Name x px] env).map (·.2) = [assign (.Subscript o i pos') env, assign (.Name x px) env] := by intro _; rfl)
    (hw : ∀ env, swappedStores [.Subscript o i pos', .Name x px] value env = pure none := by intro _; rfl) :
    SimS prog w h₀ hd k sc (.Assign [.Subscript o i pos', .Name x px] value pos) (do let v ← dv; let o ← do_; let i ← di; setA o i v; setV x v; pure .next) := by
  intro A env ρ₀ ha hE s ρ σ e₀ rr f σ' hd' Q E kk
  refine  bind_k hd' fun v σ₁ e1 hd1 => ?_
  refine  bind_k hd1 fun ov σ₂ e2 hd2 => ?_
  refine  bind_k hd2 fun iv σ₃ e3 hd3 => ?_
  refine  bind_k hd3 fun _ σ₄ e4 hd4 => ?_
  refine  bind_k hd4 fun _ σ₅ e5 e6 => ?_
  obtain ⟨rfl, rfl⟩ := pure_some e6
  refine wpAny_Assign_two (hv A env ρ₀ ha hE s ρ σ e₀ rr v σ₁ e1 _ _ fun cv h₁ tk₁ ρ₁ R₁ r₁ st₁ => ?_) (he env) (hw env)
  try (unfold Gol; clear Gol)
  rw [hA env]
  refine wpAny_bind (wpAny_holding (ho A env ρ₁ ha hE _ ρ₁ σ₁ (.refl _) r₁ ov σ₂ e2 _ _ fun co h₂ tk₂ ρ₂ R₂ r₂ st₂ => ?_))
  try clear Gol
  refine wpAny_bind (wpAny_holding (hi A env ρ₂ ha hE _ ρ₂ σ₂ (.refl _) r₂ iv σ₃ e3 _ _ fun ci h₃ tk₃ ρ₃ R₃ r₃ st₃ => ?_))
  try clear Gol
  refine wpAny_bind (wpAny_standAt (wpAny_bind (wpAny_holding (set_item (R₂.ext st₃.ext) R₃ ((R₁.ext st₂.ext).ext st₃.ext) _ ρ₃ σ₃ (.refl _) r₃ () σ₄ e4 _ _ fun _ h₄ tk₄ ρ₄ _ r₄ st₄ => wpAny_release ?_))))
  try clear Gol
  have st := r₄.trans (r₃.trans (r₂.trans st₁ st₂) st₃) st₄
  exact bnd_name (k := k) (hd := hd) hx ha hE ((((R₁.ext st₂.ext).ext st₃.ext).ext st₄.ext)) _ ρ₄ σ₄ (.refl _) r₄ () σ' e5 _ _ fun _ h₅ tk₅ ρ₅ _ r₅ st₅ => kk .next h₅ tk₅ ρ₅ rfl r₅ (r₅.trans st st₅)

/-! is, for a static object -/
noncomputable def isStat (m : Addr) : AVal → AVal → M Bool
  | a, .stat (.ref m') => if m' = m then (match a with
      | .stat (.ref x) => if x = m then pure true else fail
      | .ref i => do
        match ← getO i with
        | .dict _ _ => pure false
        | _ => fail
      | .int _ => pure false
      | .none => pure false
      | _ => fail) else fail
  | _, _ => fail
theorem cmp_isStat (G : Gnd K h₀) {m : Addr} {o : Obj} (ho : K.lookup m = some o) : CmpSim prog w h₀ hd k .Is (isStat m) := by
  intro A env ρ a b ca cb hA ha hb s ρ' σ e r v σ' hd' Q E kk
  refine (let Gol : Prop := _; (?_ : Gol))
  cases b with
  | stat u =>
    cases u with
    | ref m' =>
      cases hb
      simp only [isStat] at hd'
      split at hd'
      · rename_i q
        subst q
        cases a with
        | stat x =>
          cases x with
          | ref x =>
            cases ha
            simp only at hd'
            split at hd'
            · rename_i q2; subst q2
              obtain ⟨rfl, rfl⟩ := pure_some hd'
              exact wpAny_is_ref_self (kk _ s.heap s.toks ρ' rfl r (.refl ..))
            · exact (fail_some (σ := σ) hd').elim
          | _ => exact (fail_some (σ := σ) hd').elim
        | ref i =>
          refine  bind_k hd' fun ob σ₁ e1 e2 => ?_
          obtain ⟨q1, rfl⟩ := getO_some e1
          cases ob with
          | dict ep kvs =>
            obtain ⟨rfl, rfl⟩ := pure_some e2
            refine  dictAt_k r.hp q1 fun x cvs hx hD _ => ?_
            try (unfold Gol; clear Gol)
            rw [(ha.ext e).eq_ref hx]
            have hm := List.mem_iff_getElem?.mpr ⟨i, hx⟩
            have hk := r.hp.keep _ _ (G.X _ _ ho)
            have hne : x ≠ m' := fun q => by
              have h1 := r.hp.own x hm
              rw [q, G.X _ _ ho] at h1; cases h1
            obtain ⟨ox, es, hox, hcl, _⟩ := hD
            exact wpAny_is_ref_other hne hox hk (fun q => by have := hcl.1; rw [q] at this; exact absurd this (by decide)) (kk _ s.heap s.toks ρ' rfl r (.refl ..))
          | _ => exact (fail_some (σ := σ₁) e2).elim
        | int i =>
          obtain ⟨rfl, rfl⟩ := pure_some hd'
          obtain ⟨t, rfl⟩ := ha
          exact wpAny_is_plain rfl (kk _ s.heap s.toks ρ' rfl r (.refl ..))
        | none =>
          obtain ⟨rfl, rfl⟩ := pure_some hd'
          cases ha
          exact wpAny_is_plain rfl (kk _ s.heap s.toks ρ' rfl r (.refl ..))
        | _ => exact (fail_some (σ := σ) hd').elim
      · exact (fail_some (σ := σ) hd').elim
    | _ => exact (fail_some (σ := σ) hd').elim
  | _ => exact (fail_some (σ := σ) hd').elim
end
end Mine
end

section
open PySem PySem.W PyProof.Rows
set_option autoImplicit false
set_option linter.unusedVariables false
set_option maxRecDepth 100000
namespace Mine
section
variable {prog : Program} {w : World} {h₀ : Heap} {hd : Bool} {k : Nat} {sc : Scope} {K : Frag}

/-! a display of one pair -/
noncomputable def setA1 (o i v : AVal) : M Unit := match o, i with
  | .ref a, .int i => do
    match ← getO a with
    | .dict ep kvs => if kvs.length ≤ 1000 then setO a (.dict (if hasK kvs i then ep else ep + 1) (storA kvs i v)) else fail
    | _ => fail
  | _, _ => fail
theorem e_dict1 {ke ve : Expr} {pos : Pos} {dk dv : M AVal} (hk : SimE prog w h₀ hd k sc ke dk) (hv : SimE prog w h₀ hd k sc ve dv)
    (hshape : ∀ env, (evalEachOpt [some ke] env).zip ((evalEach [ve] env).map fun v => do let x ← v; standAt pos; pure x) = [(eval ke env, (do let x ← eval ve env; standAt pos; pure x))].map fun p => (some p.1, p.2) := by intro _; rfl) :
    SimE prog w h₀ hd k sc (.Dict [some ke] [ve] pos) (do let d ← newO (.dict 0 []); let k ← dk; let v ← dv; setA1 d k v; pure d) := by
  intro A env ρ₀ ha hE s ρ σ e₀ rr v σ' hd' Q E kk
  refine (let Gol : Prop := _; (?_ : Gol))
  refine  bind_k hd' fun d σ₁ e1 hd1 => ?_
  refine  bind_k hd1 fun kv σ₂ e2 hd2 => ?_
  refine  bind_k hd2 fun vv σ₃ e3 hd3 => ?_
  refine  bind_k hd3 fun _ σ₄ e4 e5 => ?_
  obtain ⟨rfl, rfl⟩ := pure_some e5
  obtain ⟨rfl, rfl⟩ := newO_some e1
  try (unfold Gol; clear Gol)
  rw [arm_eval_Dict, hshape env, dictDisplay_pairs [(eval ke env, (do let x ← eval ve env; standAt pos; pure x))] (by simp) (show 1 < 17 by decide)]
  refine wpAny_bind (wpAny_standAt (wpAny_bind ?_))
  try clear Gol
  try (unfold Gol; clear Gol)
  unfold subDict
  refine wpAny_bind (wpAny_alloc ?_)
  try clear Gol
  refine wpAny_bind (wpAny_holding ?_)
  try clear Gol
  refine wpAny_ite_split (fun _ => ?_) (fun h => absurd (show 1 ≤ 15 by decide) h)
  refine  new_obj_k rr (o := { cls := .type "dict", data := .dict #[] }) (ao := .dict 0 []) ⟨[], ⟨_, #[], Heap.get?_push_size _ rfl, ⟨rfl, rfl, rfl⟩, rfl, fun _ he => by simp at he, .nil, List.nodup_nil⟩, .nil⟩ fun x y z => ?_
  refine wpAny_bind (evalPairs_cons (hk A env _ ha hE _ _ _ (.refl _) y kv σ₂ e2 _ _ fun ck h₂ tk₂ ρ₂ R₂ r₂ st₂ => ?_))
  try clear Gol
  refine wpAny_bind (hv A env _ ha hE _ _ _ (.refl _) r₂ vv σ₃ e3 _ _ fun cv h₃ tk₃ ρ₃ R₃ r₃ st₃ => wpAny_bind (wpAny_standAt (wpAny_pure (evalPairs_nil ?_))))
  try clear Gol
  refine wpAny_holding ?_
  try clear Gol
  refine (let Gol : Prop := _; (?_ : Gol))
  try (unfold Gol; clear Gol)
  rw [List.forIn_cons]
  have hx3 := (x.ext st₂.ext).ext st₃.ext
  have st := r₃.trans (r₂.trans z st₂) st₃
  cases kv with
  | int i =>
    obtain ⟨t, rfl⟩ := R₂
    refine  bind_k e4 fun ob σ₅ e6 e7 => ?_
    obtain ⟨e8, rfl⟩ := getO_some e6
    cases ob with
    | dict ep kvs =>
      simp only at e7
      split at e7
      · rename_i hl
        cases e7
        refine  dictAt_k r₃.hp e8 fun ad cvs q1 q2 q3 => ?_
        have hx4 := hx3.eq_ref q1
        have hx5 : s.heap.objs.size = ad := by cases hx4; rfl
        try (unfold Gol; clear Gol)
        rw [hx5]
        refine wpAny_bind (wpAny_bind (wpAny_bind (dictSet_at (isInt_int i t) q2 (fun h' hm' hs' => wpAny_pure ?_) (by rw [q3.length]; exact Nat.le_trans hl size_1000))))
        try (unfold Gol; clear Gol)
        dsimp only
        try (unfold Gol; clear Gol)
        rw [List.forIn_nil]
        have r4 := r₃.upd (o := .dict (if hasK kvs i then ep else ep + 1) (storA kvs i vv)) q1 hs'.extBut ⟨_, by rw [← q3.has i] at hm'; exact hm', q3.stor i R₃⟩
        exact wpAny_pure (wpAny_pure (wpAny_pure (wpAny_pure (kk _ h' _ ρ₃ ⟨ad, q1, rfl⟩ r4 (r4.trans st (.upd (List.mem_iff_getElem?.mpr ⟨_, q1⟩) hs'.extBut))))))
      · exact (fail_some (σ := σ₅) e7).elim
    | _ => exact (fail_some (σ := σ₅) e7).elim
  | _ => exact (fail_some (σ := σ₃) e4).elim

/-! del d[i] -/
theorem hasK_look {kvs : List (Int × AVal)} {i : Int} (h : hasK kvs i = true) : (lookA kvs i).isSome = true := by
  unfold hasK at h
  unfold lookA
  induction kvs with
  | nil => cases h
  | cons p r ih =>
    simp only [List.any_cons, Bool.or_eq_true] at h
    simp only [List.find?_cons]
    split
    · rfl
    · rename_i q
      refine ih (h.resolve_left ?_)
      try clear Gol
      simp_all
noncomputable def delA (o i : AVal) : M Unit := match o, i with
  | .ref a, .int i => do
    match ← getO a with
    | .dict _ kvs => if kvs.length ≤ 1000 ∧ hasK kvs i = true then setO a (.ddict (withA kvs i)) else fail
    | .ddict kvs => if kvs.length ≤ 1000 ∧ hasK kvs i = true then setO a (.ddict (withA kvs i)) else fail
    | _ => fail
  | _, _ => fail
theorem del_item {A : Around} {env : Env} {ρ₀ : Rho} {o i : AVal} {co ci : Value} (ho : VR ρ₀ o co) (hi : VR ρ₀ i ci) : Sim prog w h₀ A env ρ₀ (delItem co ci) (fun _ _ _ => True) (delA o i) := by
  intro s ρ σ e r u σ' hd' Q E kk
  refine (let Gol : Prop := _; (?_ : Gol))
  cases o with
  | ref a =>
    cases i with
    | int i =>
      obtain ⟨t, rfl⟩ := hi
      refine  bind_k hd' fun ob σ₃ e4 e5 => ?_
      obtain ⟨e6, rfl⟩ := getO_some e4
      have fin : ∀ (ad : Addr) (kvs : List (Int × AVal)) (cvs : List (Int × Value)), ρ[a]? = some ad → s.heap.DictOf (intKind prog w) ad cvs → VPs ρ kvs cvs → kvs.length ≤ 1000 → hasK kvs i = true → σ' = ⟨σ₃.lo, σ₃.H.set a (.ddict (withA kvs i))⟩ → wpAny (model prog w) A (delItem co (.int i t)) Q E s := by
        rintro ad kvs cvs q1 q2 q3 hl hh rfl
        try (unfold Gol; clear Gol)
        rw [(ho.ext e).eq_ref q1]
        refine wpAny_delItem_slot q2.typeIs (by decide +kernel) PySem.F.slot_dict_delitem ?_
        try clear Gol
        refine call_meetsIn PySem.F.slot_dict_delitem q2.typeIs PySem.F.entry_dict_delitem (PySem.F.args_dict_delitem_2 _ _) (meets_dict_delitem_pairs (intKind prog w) ad (isInt_int i t)) ⟨cvs, q2, by rw [q3.length]; exact Nat.le_trans hl size_1000, ?_, fun h' hm' hs' => ?_⟩
        · rw [look_isSome q3]; exact hasK_look hh
        · exact kk () h' _ ρ trivial (r.upd q1 hs'.extBut ⟨_, hm', q3.wout i⟩) (.upd (List.mem_iff_getElem?.mpr ⟨_, q1⟩) hs'.extBut)
      cases ob with
      | dict ep kvs =>
        simp only at e5
        split at e5
        · rename_i hl
          cases e5
          refine  dictAt_k r.hp e6 fun ad cvs q1 q2 q3 => ?_
          exact fin ad kvs cvs q1 q2.dictOf q3 hl.1 hl.2 rfl
        · exact (fail_some (σ := σ₃) e5).elim
      | ddict kvs =>
        simp only at e5
        split at e5
        · rename_i hl
          cases e5
          refine  getK_k r.hp e6 fun ad q1 hy7 => ?_
          obtain ⟨cvs, q2, q3⟩ := hy7
          exact fin ad kvs cvs q1 q2 q3 hl.1 hl.2 rfl
        · exact (fail_some (σ := σ₃) e5).elim
      | _ => exact (fail_some (σ := σ₃) e5).elim
    | _ => exact (fail_some (σ := σ) hd').elim
  | _ => cases i <;> exact (fail_some (σ := σ) hd').elim
theorem s_del {o i : Expr} {p pos : Pos} {do' di : M AVal} (ho : SimE prog w h₀ hd k sc o do') (hi : SimE prog w h₀ hd k sc i di) : SimS prog w h₀ hd k sc (.Delete [.Subscript o i p] pos) (do let o ← do'; let i ← di; delA o i; pure .next) := by
  intro A env ρ₀ ha hE s ρ σ e₀ rr f σ' hd' Q E kk
  refine  bind_k hd' fun ov σ₁ e1 hd1 => ?_
  refine  bind_k hd1 fun iv σ₂ e2 hd2 => ?_
  refine  bind_k hd2 fun _ σ₃ e3 e4 => ?_
  obtain ⟨rfl, rfl⟩ := pure_some e4
  refine wpAny_Delete (wpAny_deleteEach_cons (wpAny_delete_Subscript (ho A env ρ₀ ha hE s ρ σ e₀ rr ov σ₁ e1 _ _ fun co h₁ tk₁ ρ₁ R₁ r₁ st₁ => ?_)))
  try clear Gol
  refine hi A env ρ₁ ha hE _ ρ₁ σ₁ (.refl _) r₁ iv σ₂ e2 _ _ fun ci h₂ tk₂ ρ₂ R₂ r₂ st₂ => ?_
  try clear Gol
  exact del_item (R₁.ext st₂.ext) R₂ _ ρ₂ σ₂ (.refl _) r₂ () σ' e3 _ _ fun _ h₃ tk₃ ρ₃ _ r₃ st₃ => wpAny_deleteEach_nil (kk .next h₃ tk₃ ρ₃ rfl r₃ (r₃.trans (r₂.trans st₁ st₂) st₃))

/-! script[:n] -/
noncomputable def sliceA (a : Addr) (ns : List Int) (b : Nat) (v : AVal) : M AVal := match v with
  | .stat (.ref a') => if a' = a then newO (.list ((ns.take b).map .int)) else fail
  | _ => fail
theorem ints_vrs {ρ : Rho} {ns : List Int} {cs : List Value} (h : IntsAre cs ns) : VRs ρ (ns.map .int) cs := by
  induction h with
  | nil => exact .nil
  | cons n t _ ih => exact .cons ⟨t, rfl⟩ ih
theorem VRs.take {ρ : Rho} {vs : List AVal} {cs : List Value} (h : VRs ρ vs cs) (n : Nat) : VRs ρ (vs.take n) (cs.take n) := by
  induction h generalizing n with
  | nil => simp; exact .nil
  | cons a _ ih =>
    cases n with
    | zero => exact .nil
    | succ n => exact .cons a (ih n)
theorem e_slice {a : Addr} {vs : List Value} {ns : List Int} {b : Nat} {value : Expr} {m : Nat} {cp p pos : Pos} {d : M AVal} (hL : h₀.IsList a vs.toArray) (hI : IntsAre vs ns) (hsz : vs.length ≤ 1000) (hv : SimE prog w h₀ hd k sc value d)
    (ht : ∀ o r, letTemporaryGo value o r = pure () := by intro _ _; rfl) :
    SimE prog w h₀ hd k sc (.Subscript value (.Slice none (some (.Constant (.int (b : Nat)) m cp)) none p) pos) (do let v ← d; sliceA a ns b v) := by
  intro A env ρ₀ ha hE s ρ σ e₀ rr v σ' hd' Q E kk
  refine  bind_k hd' fun ov σ₁ e1 e2 => ?_
  refine wpAny_Subscript_list_slice (hv A env ρ₀ ha hE s ρ σ e₀ rr ov σ₁ e1 _ _ fun co h₁ tk₁ ρ₁ R₁ r₁ st₁ => ?_) ht
  cases ov with
  | stat u =>
    cases u with
    | ref a' =>
      simp only [sliceA] at e2
      split at e2
      · rename_i q
        subst q
        obtain ⟨rfl, rfl⟩ := newO_some e2
        cases R₁
        try (unfold Gol; clear Gol)
        rw [evalPart_none, evalPart_some]
        refine wpAny_pure (c_int (prog := prog) (w := w) (h₀ := h₀) (hd := hd) (k := k) (sc := sc) A env ρ₁ ha hE _ ρ₁ σ₁ (.refl _) r₁ _ _ rfl _ _ fun cb h₂ tk₂ ρ₂ R₂ r₂ st₂ => ?_)
        try clear Gol
        refine (let Gol : Prop := _; (?_ : Gol))
        obtain ⟨t, rfl⟩ := R₂
        obtain ⟨o, ho, hc, hdd⟩ := hL
        refine ⟨a', vs.toArray, none, some b, rfl, ⟨o, r₂.hp.keep _ _ ho, hc, hdd⟩, by rw [List.size_toArray]; exact Nat.le_trans hsz size_1000, .none, .int _ _, ?_⟩
        try (unfold Gol; clear Gol)
        rw [slicePick_upto']
        have k1 : ∀ (o1 o2 : Obj) (x : Addr) (ox : Obj), h₂.get? x = some ox → ((h₂.push o1).push o2).get? x = some ox := fun o1 o2 x ox e => Heap.get?_push_of_some _ (Heap.get?_push_of_some _ e)
        have s1 : ∀ o1 : Obj, (h₂.push o1).objs.size = h₂.objs.size + 1 := fun o1 => Heap.size_push ..
        have hge : h₂.objs.size ≤ h₂.objs.size + 1 := Nat.le_succ _
        have hl : (ρ₂ ++ [h₂.objs.size + 1])[σ₁.H.length]? = some (h₂.objs.size + 1) := by rw [← r₂.hp.len, List.getElem?_append_right (Nat.le_refl _)]; simp
        refine kk _ _ _ (ρ₂ ++ [h₂.objs.size + 1]) ⟨_, hl, rfl⟩ (r₂.grow (k1 _ _) hge ⟨(vs.toArray.toList.take b).toArray, ⟨0, ?_⟩, ?_⟩) ?_
        · have := Heap.get?_push_size (h₂.push { cls := .type "slice", data := .fields #[.none, .int b t, .none] }) (o := { cls := .type "list", data := .seq ((vs.toArray.toList.take b).toArray) }) rfl
          rw [s1] at this
          exact this
        · rw [List.map_take]
          try (unfold Gol; clear Gol)
          simpa using (ints_vrs hI).take b
        · exact (r₂.trans st₁ st₂).trans (.grow (k1 _ _) (free_of_ge hge)) fun x hx hm => by
            rcases List.mem_append.mp hm with q | q
            · exact (r₂.fr.out x hx).1 q
            · obtain ⟨ox, e⟩ := r₂.fr.alive hx
              rw [List.mem_singleton.mp q, free_of_ge hge] at e; cases e
      · exact (fail_some (σ := σ₁) e2).elim
    | _ => exact (fail_some (σ := σ₁) e2).elim
  | _ => exact (fail_some (σ := σ₁) e2).elim
end
end Mine
end

section
open PySem PySem.W PyProof.Rows
set_option autoImplicit false
set_option linter.unusedVariables false
set_option maxRecDepth 100000
namespace Mine
theorem li_getattr_none : typeLookup (.type "list_iterator") "__getattr__" = pure none := by rw [typeLookup_type, builtinLookup_eq_fast]; kernel_rfl
theorem slot_li_ga : Slot "list_iterator" "__getattribute__" "object.__getattribute__" :=
  .of (owner := "object") (n := "__getattribute__") (by rw [typeLookup_type, builtinLookup_eq_fast]; kernel_rfl) (by decide +kernel) (by decide +kernel) (by decide +kernel)
    (by first | exact .inl (by decide +kernel) | exact .inr (by decide +kernel)) (by rw [isSubtype_type]; kernel_rfl)
theorem entry_li_ga : entryFor table "object.__getattribute__" = some Builtin.«object.__getattribute__» := entryFor_of_tree (by kernel_rfl)
theorem args_li_ga (a b : Value) : argsOk "object.__getattribute__" ⟨[a, b], []⟩ := by unfold argsOk; kernel_rfl
theorem typeOf_li_next : typeOf (.builtin "list_iterator.__next__") = pure (.type "wrapper_descriptor") := by kernel_rfl
theorem slot_wd_get : Slot "wrapper_descriptor" "__get__" "wrapper_descriptor.__get__" :=
  .of (owner := "wrapper_descriptor") (n := "__get__") (by rw [typeLookup_type, builtinLookup_eq_fast]; kernel_rfl) (by decide +kernel) (by decide +kernel) (by decide +kernel)
    (by first | exact .inl (by decide +kernel) | exact .inr (by decide +kernel)) (by rw [isSubtype_type]; kernel_rfl)
theorem wd_set_none : typeLookup (.type "wrapper_descriptor") "__set__" = pure none := by rw [typeLookup_type, builtinLookup_eq_fast]; kernel_rfl
theorem wd_del_none : typeLookup (.type "wrapper_descriptor") "__delete__" = pure none := by rw [typeLookup_type, builtinLookup_eq_fast]; kernel_rfl
theorem entry_wd_get : entryFor table "wrapper_descriptor.__get__" = some Builtin.«wrapper_descriptor.__get__» := entryFor_of_tree (by kernel_rfl)
theorem args_wd_get (a b c : Value) : argsOk "wrapper_descriptor.__get__" ⟨[a, b, c], []⟩ := by unfold argsOk; kernel_rfl

section
variable {prog : Program} {w : World} {A : Around} {E : Value → Shared → Prop} {h : Heap} {g : Array GenState} {d : Drawn} {t : Nat} {os : OsState} {a : Addr} {vs : Array Value} {sl : Array (Option Value)}

theorem li_owner : (".".intercalate ("list_iterator.__next__".cutAt '.').dropLast) = "list_iterator" := by
  have e0 : "list_iterator.__next__".cutAt '.' = ["list_iterator", "__next__"] := by first | rfl | decide +kernel
  rw [e0]; decide +kernel
theorem li_sub : isSubtype (.type "list_iterator") (.type (".".intercalate ("list_iterator.__next__".cutAt '.').dropLast)) = pure true := by
  rw [li_owner, isSubtype_type]; kernel_rfl
theorem next_get {R : Result → Shared → Prop} (hx : h.get? a = some ⟨.type "list_iterator", none, .fields vs, sl⟩)
    (hq : R (.ok (.ret (.ref h.objs.size))) ⟨h.push { cls := .type "method-wrapper", data := .fields #[.builtin "list_iterator.__next__", .ref a] }, g, d, t, os⟩) :
    codeAny (model prog w) A (.call (.builtin "wrapper_descriptor.__get__") ⟨[.builtin "list_iterator.__next__", .ref a, .type "list_iterator"], []⟩) R ⟨h, g, d, t, os⟩ := by
  have hT : (⟨h, g, d, t, os⟩ : Shared).TypeIs (.ref a) "list_iterator" := ⟨_, hx, rfl⟩
  have hT5 : (⟨h, g, d, t, os⟩ : Shared).TypeIs (.builtin "list_iterator.__next__") "wrapper_descriptor" := typeOf_li_next
  have f8 := li_sub
  refine codeAny_call_builtin slot_wd_get.plain entry_wd_get (slot_wd_get.check _ _ _ _ _ _ _ _ hT5 (args_wd_get _ _ _) ?_)
  try clear Gol
  repeat (any_goals (first | assumption | wp_step))
theorem next_entry {tk : Tok} {Q : Fin → Shared → Prop} (hx : h.get? a = some ⟨.type "list_iterator", none, .fields vs, sl⟩)
    (hq : Q (.done (.ret (.ref h.objs.size))) ⟨h.push { cls := .type "method-wrapper", data := .fields #[.builtin "list_iterator.__next__", .ref a] }, g, d, t, os⟩) :
    wpAny (model prog w) A (Builtin.«object.__getattribute__» ⟨[.ref a, .str "__next__" tk], []⟩) Q E ⟨h, g, d, t, os⟩ := by
  have hT : (⟨h, g, d, t, os⟩ : Shared).TypeIs (.ref a) "list_iterator" := ⟨_, hx, rfl⟩
  have hT5 : (⟨h, g, d, t, os⟩ : Shared).TypeIs (.builtin "list_iterator.__next__") "wrapper_descriptor" := typeOf_li_next
  have f4 := slot_listiter_next.lookup
  have f5 := typeOf_li_next
  have f6 := slot_wd_get.lookup
  have f7 := wd_set_none
  have f8 := wd_del_none
  repeat (any_goals (first | assumption | wp_step))
  refine next_get hx ?_
  try clear Gol
  repeat (any_goals (first | assumption | wp_step))
theorem next_call {tk : Tok} {R : Result → Shared → Prop} (hx : h.get? a = some ⟨.type "list_iterator", none, .fields vs, sl⟩)
    (hq : R (.ok (.ret (.ref h.objs.size))) ⟨h.push { cls := .type "method-wrapper", data := .fields #[.builtin "list_iterator.__next__", .ref a] }, g, d, t, os⟩) :
    codeAny (model prog w) A (.call (.builtin "object.__getattribute__") ⟨[.ref a, .str "__next__" tk], []⟩) R ⟨h, g, d, t, os⟩ :=
  codeAny_call_builtin slot_li_ga.plain entry_li_ga (slot_li_ga.check _ _ _ _ _ _ _ _ (show (⟨h, g, d, t, os⟩ : Shared).TypeIs (.ref a) "list_iterator" from ⟨_, hx, rfl⟩) (args_li_ga _ _) (next_entry hx hq))
theorem next_attr {Q : Value → Shared → Prop} {expr : Bool} (hx : h.get? a = some ⟨.type "list_iterator", none, .fields vs, sl⟩)
    (hq : Q (.ref h.objs.size) ⟨h.push { cls := .type "method-wrapper", data := .fields #[.builtin "list_iterator.__next__", .ref a] }, g, d, t + 1, os⟩) :
    wpAny (model prog w) A (getAttr (.ref a) "__next__" expr) Q E ⟨h, g, d, t, os⟩ := by
  have hT : ∀ tk', (⟨h, g, d, tk', os⟩ : Shared).TypeIs (.ref a) "list_iterator" := fun _ => ⟨_, hx, rfl⟩
  have f2 := slot_li_ga.lookup
  have f3 := slot_li_ga.bind (.ref a)
  have f5 := li_getattr_none
  unfold getAttr getAttrBy
  repeat (any_goals (first | assumption | exact hT _ | wp_step))
  rw [if_neg (by cases expr <;> decide)]
  repeat (any_goals (first | assumption | exact hT _ | wp_step))
  refine next_call hx ?_
  try clear Gol
  repeat (any_goals (first | assumption | exact hT _ | wp_step))
end

section
variable {prog : Program} {w : World} {h₀ : Heap} {hd : Bool} {k : Nat} {sc : Scope} {K : Frag}
/-- `__next__` of the iterator of a list -/
noncomputable def nextA (v : AVal) : M AVal := match v with
  | .ref i => do
    match ← getO i with
    | .iter _ _ => newO (.nextm i)
    | _ => fail
  | _ => fail
theorem get_next : GetA prog w h₀ "__next__" nextA := by
  intro A env ρ₀ v c expr hv s ρ σ e rr u σ' hd' Q E kk
  refine (let Gol : Prop := _; (?_ : Gol))
  cases v with
  | ref i =>
    refine  bind_k hd' fun o σ₁ e1 e2 => ?_
    obtain ⟨q1, rfl⟩ := getO_some e1
    cases o with
    | iter l j =>
      obtain ⟨rfl, rfl⟩ := newO_some e2
      refine  getK_k rr.hp q1 fun b p5 hy2 => ?_
      obtain ⟨a', sl, p6, p7⟩ := hy2
      try (unfold Gol; clear Gol)
      rw [(hv.ext e).eq_ref p5]
      refine  new_obj_k rr (o := { cls := .type "method-wrapper", data := .fields #[.builtin "list_iterator.__next__", .ref b] }) (ao := .nextm i) ⟨b, Ext.snoc _ _ _ _ p5, Heap.get?_push_size _ rfl⟩ fun x y z => ?_
      obtain ⟨hh, g, d, t, os⟩ := s
      exact next_attr p7 (kk _ _ _ _ x y z)
    | _ => exact (fail_some (σ := σ₁) e2).elim
  | _ => exact (fail_some (σ := σ) hd').elim

/-! a call of that wrapper -/
theorem mw_check (a : Addr) : checkBoundCall "list_iterator.__next__" ⟨[.ref a], []⟩ = pure () := by first | kernel_rfl | rfl
theorem mw_quiet (args : Args) : (Code.builtin "list_iterator.__next__" args).quiet = true := Code.quiet_builtin _ (by decide +kernel)
theorem mw_call {A : Around} {s : Shared} {mw it : Addr} {Q : Value → Shared → Prop} {E : Value → Shared → Prop} (ho : s.heap.get? mw = some { cls := .type "method-wrapper", data := .fields #[.builtin "list_iterator.__next__", .ref it] })
    (h : ∀ A' : Around, A'.handled = A.handled → wpAny (model prog w) A' (Builtin.«list_iterator.__next__» ⟨[.ref it], []⟩) (fun fin s' => ∃ v, fin = .done (.ret v) ∧ Q v s') E s) :
    wpAny (model prog w) A (call (.ref mw) []) Q E s := by
  refine wpAny_call (codeAny_of_tree ?_)
  try clear Gol
  try (unfold Gol; clear Gol)
  show wpAny _ A.in1 (callAny (.ref mw) ⟨[], []⟩) _ _ s
  try (unfold Gol; clear Gol)
  simp only [callAny]
  refine wpAny_bind (wpAny_load ho ?_)
  try clear Gol
  try (unfold Gol; clear Gol)
  dsimp only
  refine wpAny_ite_split (fun _ => ?_) (fun hab => absurd (by decide) hab)
  refine wpAny_ite_split (fun _ => ?_) (fun hab => absurd (by decide) hab)
  refine wpAny_bind (wpAny_of_eq (a := ()) (mw_check it) ?_)
  try clear Gol
  refine wpAny_bind (wpAny_pure (wpAny_pure ?_))
  try clear Gol
  refine ⟨mw_quiet _, codeAny_builtin entry_listiter_next (wpAny_mono (h _ rfl) (fun fin s' z => ?_) fun _ _ z => z)⟩
  obtain ⟨v, rfl, z⟩ := z
  exact z
theorem mw_keeper {M : Model} {mw it : Addr} (h : Heap) (ho : h.get? mw = some { cls := .type "method-wrapper", data := .fields #[.builtin "list_iterator.__next__", .ref it] }) :
    ∃ k, (k = Keeper.frame ∨ k = Keeper.machine ∨ k = Keeper.boundFrame) ∧ Looks M h (keeperOf (.ref mw)) k :=
  ⟨.machine, .inr (.inl rfl), (Looks.ld (part := none) ho).andThen .now⟩
end
end Mine
end

section
open PySem PySem.W PyProof.Rows
set_option autoImplicit false
set_option linter.unusedVariables false
set_option maxRecDepth 100000
namespace Mine
section
variable {prog : Program} {w : World} {h₀ h h' : Heap} {hd : Bool} {k : Nat} {sc : Scope} {K : Frag} {fs : Option (List Env)} {env : Env} {ρ ρ' : Rho} {σ : St}

theorem Rel.but (r : Rel prog w h₀ fs env ρ σ h) {a : Addr} (hs : Heap.ExtBut a h h') (h1 : a ∉ ρ) (h2 : ¬ Fa env a) (h3 : h₀.get? a = none) (h4 : NoFr fs a) : Rel prog w h₀ fs env ρ σ h' :=
  ⟨⟨fun b o e => hs b o (fun q => by rw [q, h3] at e; cases e) (r.hp.keep b o e), r.hp.len, r.hp.nd, fun i o b e1 e2 => (r.hp.objs i o b e1 e2).at fun o e => hs b o (fun q => h1 (q ▸ List.mem_iff_getElem?.mpr ⟨i, e2⟩)) e, r.hp.own, r.hp.mods, r.hp.big⟩,
    r.fr.keeps (.refl _) (fun a ha => (r.fr.out a ha).1) fun b o hb e => ⟨o, hs b o (fun q => h2 (q ▸ hb)) e, .refl _⟩, r.fo.butN hs h4, r.tp⟩
theorem Rel.slots (r : Rel prog w h₀ fs env ρ σ h) {l : List Env} (hl : fs = some l) (hs : Heap.SlotsOnly (l.filterMap (·.frame)) h h') :
    Rel prog w h₀ fs env ρ σ h' ∧ ∀ b o, h.get? b = some o → ∃ o', h'.get? b = some o' ∧ Kp o o' := by
  obtain ⟨l', e1, f⟩ := r.fo
  rw [hl] at e1; cases e1
  have inS : ∀ b, b ∈ l.filterMap (·.frame) → b ∉ ρ ∧ h₀.get? b = none ∧ ∃ o es ep, h.get? b = some o ∧ o.data = .dict es ep := fun b hb => by
    obtain ⟨e, he, hf⟩ := List.mem_filterMap.mp hb
    obtain ⟨_, L, o, es, ep, q1, q2, q3, q4, q5⟩ := f e he
    rw [hf] at q1; cases q1
    exact ⟨q2, q3, o, es, ep, q4, q5⟩
  have kp : ∀ b o, h.get? b = some o → ∃ o', h'.get? b = some o' ∧ Kp o o' := fun b o e => by
    by_cases hb : b ∈ l.filterMap (·.frame)
    · obtain ⟨_, _, o', es, ep, q4, q5⟩ := inS b hb
      rw [e] at q4; cases q4
      obtain ⟨sl, q6⟩ := hs.2.2 b o e
      exact ⟨_, q6, .inr ⟨es, ep, sl, q5, rfl⟩⟩
    · exact ⟨o, (hs.2.1 b hb).trans e, .refl _⟩
  refine ⟨⟨⟨fun b o e => (hs.2.1 b fun hb => ?_).trans (r.hp.keep b o e), r.hp.len, r.hp.nd, fun i o b e1 e2 => (r.hp.objs i o b e1 e2).at fun o e => (hs.2.1 b fun hb => (inS b hb).1 (List.mem_iff_getElem?.mpr ⟨i, e2⟩)).trans e, r.hp.own, r.hp.mods, r.hp.big⟩,
    r.fr.keeps (.refl _) (fun a ha => (r.fr.out a ha).1) fun b o _ e => kp b o e, r.fo.keeps fun b o es ep e d hb _ _ => ⟨hb, ?_⟩, r.tp⟩, kp⟩
  · rw [(inS b hb).2.1] at e; cases e
  · obtain ⟨o', q1, q2⟩ := kp b o e
    exact ⟨o', es, ep, q1, q2.data.trans d⟩
theorem FsOk.funs {l : List Env} (f : ∀ e ∈ l, e.scope.kind ≠ .module ∧ ∃ L o es ep, e.frame = some L ∧ L ∉ ρ ∧ h₀.get? L = none ∧ h.get? L = some o ∧ o.data = .dict es ep) : h.FunFrames h₀ l := by
  induction l with
  | nil => trivial
  | cons e l ih =>
    obtain ⟨h1, L, o, es, ep, h2, h3, h4, h5, h6⟩ := f e List.mem_cons_self
    exact ⟨h1, ⟨L, o, h2, h4, h5, fun vs q => by rw [h6] at q; cases q⟩, ih fun x hx => f x (List.mem_cons_of_mem _ hx)⟩
theorem frame_of {A : Around} {E : Value → Shared → Prop} {s : Shared} {Q : Value → Shared → Prop} (r : Rel prog w h₀ A.frames env ρ σ s.heap)
    (hQ : ∀ L h', env.frame = some L → Rel prog w h₀ A.frames env ρ σ h' → (∀ b o, s.heap.get? b = some o → ∃ o', h'.get? b = some o' ∧ Kp o o') → Q (.ref L) { s with heap := h' }) : wpAny (model prog w) A (PySem.frameOf env) Q E s := by
  obtain ⟨e₀, outer, L, hfr, hf, hfe⟩ := r.tp
  obtain ⟨l, e1, f⟩ := r.fo
  rw [hfr] at e1; cases e1
  unfold PySem.frameOf
  refine wpAny_bind (wpAny_frameEnvs hfr ?_)
  try clear Gol
  have hdw : ((e₀ :: outer).dropWhile fun x => x.frame != env.frame) = e₀ :: outer := by simp [List.dropWhile, hf, hfe]
  try (unfold Gol; clear Gol)
  rw [hdw]
  try (unfold Gol; clear Gol)
  unfold frameObject
  refine wpAny_bind (wpAny_bind (wpAny_readyFrames_fun (FsOk.funs f) fun h₁ hs₁ => wpAny_pure ?_))
  try clear Gol
  try (unfold Gol; clear Gol)
  rw [hf]
  obtain ⟨r', kp⟩ := r.slots hfr hs₁
  exact wpAny_pure (hQ L h₁ hfe r' kp)

/-- noteFrame on a fresh exception -/
theorem note_of {A : Around} {E : Value → Shared → Prop} {s : Shared} {Q : Unit → Shared → Prop} {ea : Addr} {oe : Obj} {vs : Array Value} (r : Rel prog w h₀ A.frames env ρ σ s.heap) (he : s.heap.get? ea = some oe) (hdt : oe.data = .fields vs) (h1 : vs[1]? = some .none)
    (x1 : ea ∉ ρ) (x2 : ¬ Fa env ea) (x3 : h₀.get? ea = none) (x4 : NoFr A.frames ea)
    (hQ : ∀ h' tb ot ts, Rel prog w h₀ A.frames env ρ σ h' → (∀ b o, b ≠ ea → s.heap.get? b = some o → ∃ o', h'.get? b = some o' ∧ Kp o o') → s.heap.get? tb = none → h'.get? ea = some (oe.mapFields (·.setIfInBounds 1 (.ref tb))) →
      h'.get? tb = some ot → ot.data = .fields ts → 3 < ts.size → tb ≠ ea → Q () { s with heap := h' }) : wpAny (model prog w) A (noteFrame (.ref ea) env) Q E s := by
  obtain ⟨e₀, outer, L, hfr, hf, hfe⟩ := r.tp
  have hsz : 1 < vs.size := (Array.getElem?_eq_some_iff.mp h1).1
  unfold noteFrame
  simp only [hfe]
  refine wpAny_bind (wpAny_field he hdt h1 ?_)
  try clear Gol
  try (unfold Gol; clear Gol)
  rw [if_neg (by decide)]
  refine wpAny_bind (frame_of r fun L' h₁ hL' r₁ kp => ?_)
  try clear Gol
  refine wpAny_bind (wpAny_entryPlaceOf fun pl hpl => ?_)
  try clear Gol
  try (unfold Gol; clear Gol)
  unfold EntryCells.newEntry newFields
  refine wpAny_bind (wpAny_newObj_type ?_ (hpl.sizeOk5 _ _ _ _ _))
  obtain ⟨oe', he₁, kpe⟩ := kp ea oe he
  have := kpe.eq (fun es ep q => by rw [hdt] at q; cases q)
  subst this
  have he₂ := Heap.get?_push_of_some (h := h₁) { cls := .type "traceback", dict := none, data := .fields ([Value.none, .ref L', .none, rawInt L, .none] ++ (if pl.isEmpty then List.replicate 6 Value.none else pl)).toArray } he₁
  refine wpAny_setField he₂ hdt hsz ?_
  try clear Gol
  refine (let Gol : Prop := _; (?_ : Gol))
  have hTe : h₁.objs.size ≠ ea := Nat.ne_of_gt (Heap.lt_size he₁)
  have free1 : h₁.get? h₁.objs.size = none := free_of_ge (Nat.le_refl _)
  have tfree : s.heap.get? h₁.objs.size = none := by
    cases q : s.heap.get? h₁.objs.size with
    | none => rfl
    | some o => obtain ⟨o', q1, _⟩ := kp _ o q; rw [free1] at q1; cases q1
  have hS := Heap.SameBut.update (h₁.push { cls := .type "traceback", dict := none, data := .fields ([Value.none, .ref L', .none, rawInt L, .none] ++ (if pl.isEmpty then List.replicate 6 Value.none else pl)).toArray }) ea (Obj.mapFields (·.setIfInBounds 1 (Value.ref h₁.objs.size)))
  have r₂ := r₁.same (h' := h₁.push { cls := .type "traceback", dict := none, data := .fields ([Value.none, .ref L', .none, rawInt L, .none] ++ (if pl.isEmpty then List.replicate 6 Value.none else pl)).toArray }) fun b o e => Heap.get?_push_of_some _ e
  have r₃ := r₂.but hS.extBut x1 x2 x3 x4
  have hd₃ := Obj.data_mapFields hdt (·.setIfInBounds 1 (Value.ref h₁.objs.size))
  refine hQ _ h₁.objs.size _ _ r₃ (fun b o hb e => ?_) tfree (Heap.get?_update_self _ he₂ (Obj.isFreed_of_fields hd₃)) (hS.extBut _ _ hTe (Heap.get?_push_size h₁ rfl)) rfl ?_ hTe
  · obtain ⟨o', q1, q2⟩ := kp b o e
    exact ⟨o', hS.extBut b o' hb (Heap.get?_push_of_some _ q1), q2⟩
  · simp
theorem Step.drop {P : Addr → Prop} {t : Addr} (st : Step (fun a => P a ∨ a = t) ρ ρ' h h') (ht : h.get? t = none) : Step P ρ ρ' h h' :=
  ⟨st.ext, fun b o e hb hq => st.keep b o e hb fun q => q.elim hq fun q => (by rw [q, ht] at e; cases e), st.fresh⟩
end

section
variable {prog : Program} {w : World} {h₀ : Heap} {hd : Bool} {k : Nat} {sc : Scope} {K : Frag}
/-- a try whose body does not raise -/
theorem s_tryOk {body : List Stmt} {h₁ : ExceptHandler} {hs : List ExceptHandler} {pos : Pos} {d : M AFlow} (hb : SimB prog w h₀ hd k sc body d) : SimS prog w h₀ hd k sc (.Try body (h₁ :: hs) [] [] pos) d := by
  intro A env ρ₀ ha hE s ρ σ e₀ rr f σ' hd' Q E kk
  refine wpAny_Try_except (hb A env ρ₀ ha hE s ρ σ e₀ rr f σ' hd' _ _ fun c h₂ tk₂ ρ₂ R₂ r₂ st₂ => ?_)
  try clear Gol
  refine (let Gol : Prop := _; (?_ : Gol))
  cases f with
  | next => cases R₂; exact wpAny_execs_nil (kk _ h₂ tk₂ ρ₂ rfl r₂ st₂)
  | brk => cases R₂; exact kk _ h₂ tk₂ ρ₂ rfl r₂ st₂
  | cont => cases R₂; exact kk _ h₂ tk₂ ρ₂ rfl r₂ st₂
  | ret u => obtain ⟨c', rfl, R⟩ := R₂; exact kk _ h₂ tk₂ ρ₂ ⟨c', rfl, R⟩ r₂ st₂

noncomputable def tryTail (x : Str) (dh : M AFlow) (v : AVal) : M AFlow := match v with
  | .ref m => do
    match ← getO m with
    | .nextm i => do
      match ← getO i with
      | .iter l j => do
        match ← getO l with
        | .list xs => match xs[j]? with
          | some u => do
            setO i (.iter l (j + 1))
            setV x u
            pure .brk
          | none => do
            setO i .dead
            dh
        | _ => fail
      | _ => fail
    | _ => fail
  | _ => fail
noncomputable def dTryNext (df : M AVal) (x : Str) (dh : M AFlow) : M AFlow := do let v ← df; tryTail x dh v
theorem tryTail_inv {x : Str} {dh : M AFlow} {v : AVal} {σ σ' : St} {f : AFlow} (h : tryTail x dh v σ = some (f, σ')) : ∃ m i l j xs, v = .ref m ∧ σ.H[m]? = some (.nextm i) ∧ σ.H[i]? = some (.iter l j) ∧ σ.H[l]? = some (.list xs) ∧
    ((∃ u, xs[j]? = some u ∧ f = .brk ∧ setV x u ⟨σ.lo, σ.H.set i (.iter l (j + 1))⟩ = some ((), σ')) ∨ xs[j]? = none ∧ dh ⟨σ.lo, σ.H.set i .dead⟩ = some (f, σ')) := by
  obtain ⟨m, hq⟩ := argRef (F := fun v => tryTail x dh v σ) h (fun _ => rfl) (fun _ => rfl) rfl (fun _ => rfl)
  subst hq
  obtain ⟨o, q1, h1⟩ := getO_inv h
  clear h
  cases o with
  | nextm i =>
    obtain ⟨l, j, q2, h2⟩ := getI_inv (f := fun l j => do match ← getO l with | .list xs => (match xs[j]? with | some u => (do setO i (.iter l (j + 1)); setV x u; pure .brk) | none => (do setO i .dead; dh)) | _ => fail) h1
    clear h1
    obtain ⟨xs, q3, h3⟩ := getL_inv (f := fun xs => match xs[j]? with | some u => (do setO i (.iter l (j + 1)); setV x u; pure .brk) | none => (do setO i .dead; dh)) h2
    clear h2
    refine ⟨m, i, l, j, xs, rfl, q1, q2, q3, ?_⟩
    cases hx : xs[j]? with
    | some u =>
      rw [hx] at h3
      refine  bind_k h3 fun _ σ₅ e5 hd5 => ?_
      cases e5
      refine  bind_k hd5 fun _ σ₆ e6 e7 => ?_
      obtain ⟨rfl, rfl⟩ := pure_some e7
      exact .inl ⟨u, rfl, rfl, e6⟩
    | none =>
      rw [hx] at h3
      refine  bind_k h3 fun _ σ₅ e5 hd5 => ?_
      cases e5
      exact .inr ⟨rfl, hd5⟩
  | _ => exact (fail_some (σ := σ) h1).elim

theorem stop_exc : isSubtype (.type "StopIteration") (.type "BaseException") = pure true := by rw [isSubtype_type]; kernel_rfl
theorem stop_nt : isSubtype (.type ((Manifest.find? "StopIteration").elim "type" fun x => x.metatype)) (.type "tuple") = pure false := by
  have : (Manifest.find? "StopIteration").elim "type" (fun x => x.metatype) = "type" := by decide +kernel
  rw [this, isSubtype_type]; kernel_rfl
theorem s_tryNext {fe : Expr} {x : Str} {px cp ap bp np hp pos : Pos} {b₀ : Stmt} {hb : List Stmt} {df : M AVal} {dh : M AFlow} (hf : SimE prog w h₀ true k sc fe df) (hH : SimB prog w h₀ false k sc (b₀ :: hb) dh)
    (hN : SimE prog w h₀ false k sc (.Name "StopIteration" np) (pure (.stat (.type "StopIteration")))) (hx : sc.names.lookup x = some .local ∨ sc.names.lookup x = some .cell)
    (hc : ∀ env, eval (.Call fe [] [] cp) env = (do callWith cp (← eval fe env) [] (backTo cp (starEach [] env)) (backToKw cp (keywordEach [] env))) := by intro _; rfl)
    (hs : ∀ env, swapsWith (.Call fe [] [] cp) (some (.Name x px)) ap.line env = pure false := by intro _; rfl) :
    SimS prog w h₀ true k sc (.Try [.Assign [.Name x px] (.Call fe [] [] cp) ap, .Break bp] [.ExceptHandler (some (.Name "StopIteration" np)) none (b₀ :: hb) hp] [] [] pos) (dTryNext df x dh) := by
  intro A env ρ₀ ha hE s ρ σ e₀ rr f σ' hd' Q E kk
  refine (let Gol : Prop := _; (?_ : Gol))
  refine  bind_k hd' fun fv σ₁ e1 hd1 => ?_
  clear hd'
  obtain ⟨m, i, l, j, xs, rfl, q1, q2, q3, hd4⟩ := tryTail_inv hd1
  clear hd1
  refine wpAny_Try_except (wpAny_execs_cons (wpAny_Assign_Name (Call_ (hf A env ρ₀ ha hE s ρ σ e₀ rr _ σ₁ e1 _ _ fun c h₁ tk₁ ρ₁ R₁ r₁ st₁ => ?_) (hc env)) (hs env)))
  clear Gol
  refine (let Gol : Prop := _; (?_ : Gol))
  next =>
   next =>
    next =>
     next =>
          refine  getK_k r₁.hp q1 fun mw p1 hy5 => ?_
          obtain ⟨it, p2, p3⟩ := hy5
          refine  getK_k r₁.hp q2 fun it' p4 hy6 => ?_
          obtain ⟨la, sl, p5, p6⟩ := hy6
          rw [p2] at p4; cases p4
          refine  listAt_k r₁.hp q3 fun la' its nn p7 p8 p9 p10 => ?_
          rw [p5] at p7; cases p7
          have hit : IsIt h₁ it la j sl := p6
          have hitm : it ∈ ρ₁ := List.mem_iff_getElem?.mpr ⟨_, p2⟩
          unfold Gol; clear Gol
          rw [R₁.eq_ref p1]
          refine callWith_of (P := fun h => h.get? mw = some { cls := .type "method-wrapper", data := .fields #[.builtin "list_iterator.__next__", .ref it] }) rfl (fun h hh => mw_keeper h hh) (PyProof.Rows.evalArgs_none ?_)
          refine ⟨p3, mw_call (s := { s with heap := h₁, toks := tk₁ }) p3 fun A' hA' => ?_⟩
          refine (let Gol : Prop := _; (?_ : Gol))
          rcases hd4 with ⟨u, hxj, rfl, e6⟩ | ⟨hxj, hd5⟩
          next =>
            obtain ⟨cx, w8, w9⟩ := p9.get hxj
            refine next_body (s := { s with heap := h₁, toks := tk₁ }) hit (IsL.isList p8) (by simpa using w8) fun h₂ hit2 hs2 => ⟨cx, rfl, ?_⟩
            have r2 := r₁.upd (o := .iter l (j + 1)) p2 hs2.extBut ⟨la, sl, p5, hit2⟩
            have st2 := r2.trans st₁ (.upd hitm hs2.extBut)
            refine store_any hE hx w9 { s with heap := h₂, toks := tk₁ } ρ₁ _ (.refl _) r2 () σ' e6 _ _ fun _ h₃ tk₃ ρ₃ _ r₃ st₃ => ?_
            exact wpAny_execs_cons (wpAny_Break (kk .brk h₃ tk₃ ρ₃ rfl r₃ (r₃.trans st2 st₃)))
          next =>
            refine stop_body (s := { s with heap := h₁, toks := tk₁ }) (hA'.trans (ha.handled rfl)) hit.iter (IsL.isList p8) (by have := p9.getNone hxj; simpa using this) fun h₂ ea vs hs2 hdead hfree hne he h1 hsz => ?_
            obtain ⟨od, _, hdd, _⟩ := hdead
            have r2 := r₁.upd (o := .dead) p2 hs2 ⟨od, hdd⟩
            have fresh1 : ∀ a, h₁.get? a = none → a ∉ ρ₁ ∧ ¬ Fa env a ∧ h₀.get? a = none ∧ NoFr A.frames a := fun a hn => by
              refine ⟨fun q => ?_, fun q => ?_, ?_, r₁.fo.noFr hn⟩
              · obtain ⟨o', e'⟩ := r₁.hp.alive q; rw [hn] at e'; cases e'
              · obtain ⟨o', e'⟩ := r₁.fr.alive q; rw [hn] at e'; cases e'
              · cases q : h₀.get? a with
                | none => rfl
                | some o' => have := r₁.hp.keep a o' q; rw [hn] at this; cases this
            obtain ⟨x1, x2, x3, x4⟩ := fresh1 ea hfree
            refine note_of (s := { s with heap := h₂, toks := tk₁ }) r2 he rfl h1 x1 x2 x3 x4 fun h₃ tb ot ts r₃ kp₃ tfree he₃ htb hts hts3 htbe => ?_
            have tfree1 : h₁.get? tb = none := by
              cases q : h₁.get? tb with
              | none => rfl
              | some o' =>
                by_cases qe : tb = it
                · subst qe; cases tfree.symm.trans hdd
                · have := hs2 tb o' qe q
                  cases tfree.symm.trans this
            obtain ⟨y1, y2, y3, y4⟩ := fresh1 tb tfree1
            -- the step from h₁ to h₃
            have s13 : Step (fun a => (Fa env a ∨ a = ea) ∨ a = tb) ρ₁ ρ₁ h₁ h₃ := ⟨.refl _, fun b o e hb hq => by
              have hbi : b ≠ it := fun q => hb (q ▸ hitm)
              obtain ⟨o', z1, z2⟩ := kp₃ b o (fun q => hq (.inl (.inr q))) (hs2 b o hbi e)
              exact ⟨o', z1, z2⟩, fun a h1 h2 => absurd h1 h2⟩
            have hde := Obj.data_mapFields (o := { cls := .type "StopIteration", data := .fields vs }) rfl (·.setIfInBounds 1 (Value.ref tb))
            have hv1 : (vs.setIfInBounds 1 (Value.ref tb))[1]? = some (.ref tb) := by
              rw [Array.getElem?_setIfInBounds]; simp; omega
            refine wpAny_setFlight_none (s := { s with heap := h₃, toks := tk₁ }) he₃ hde hv1 htb hts hts3 ?_
            have hS4 := Heap.SameBut.update h₃ tb (Obj.mapFields (·.setIfInBounds 3 Value.none))
            have r4 := r₃.but hS4.extBut y1 y2 y3 y4
            have tb4 := Heap.get?_update_self (Obj.mapFields (·.setIfInBounds 3 Value.none)) htb (Obj.isFreed_of_fields (Obj.data_mapFields hts _))
            have ea4 := hS4.extBut ea _ (Ne.symm htbe) he₃
            have s34 : Step (fun a => (Fa env a ∨ a = ea) ∨ a = tb) ρ₁ ρ₁ h₃ (h₃.update tb (Obj.mapFields (·.setIfInBounds 3 Value.none))) := ⟨.refl _, fun b o e hb hq => ⟨o, hS4.extBut b o (fun q => hq (.inr q)) e, .refl _⟩, fun a h1 h2 => absurd h1 h2⟩
            have nT : ∀ {ρ' : Rho} {σ' : St} {h' : Heap}, Rel prog w h₀ A.frames env ρ' σ' h' → ea ∉ ρ' → tb ∉ ρ' → ∀ a, ((Fa env a ∨ a = ea) ∨ a = tb) → a ∉ ρ' := fun r n1 n2 a q => by
              rcases q with (q | q) | q
              · exact (r.fr.out a q).1
              · exact q ▸ n1
              · exact q ▸ n2
            have s14 := s13.trans s34 (nT r4 x1 y1)
            have hAm : AOk false k (A.mark (some (.ref ea))) := ⟨fun q => (by cases q), ha.depth, ha.units⟩
            refine wpAny_handleBy_builtin (X := "StopIteration") (T := "StopIteration") (b := true) stop_exc stop_nt isSubtype_stop ?_
            refine hN (A.mark (some (.ref ea))) env ρ₁ hAm hE { s with heap := _, toks := tk₁ } ρ₁ _ (.refl _) r4 _ _ rfl _ _ fun cN h₅ tk₅ ρ₅ R₅ r₅ st₅ => ?_
            have ea5 := st₅.exact ea4 x1 x2 (fun es ep q => by rw [hde] at q; cases q)
            have tb5 := st₅.exact tb4 y1 y2 (fun es ep q => by rw [Obj.data_mapFields hts _] at q; cases q)
            have n5e : ea ∉ ρ₅ := fun q => by have := st₅.fresh ea q x1; cases this.symm.trans ea4
            have n5t : tb ∉ ρ₅ := fun q => by have := st₅.fresh tb q y1; cases this.symm.trans tb4
            have s15 := s14.trans (st₅.weak fun a q => .inl (.inl q)) (nT r₅ n5e n5t)
            refine ⟨R₅, ⟨_, ea5, rfl⟩, ?_⟩
            simp only [if_true]
            refine wpAny_setFlight_none (s := { s with heap := h₅, toks := tk₅ }) ea5 hde hv1 tb5 (Obj.data_mapFields hts _) (by simpa using hts3) ?_
            have hS6 := Heap.SameBut.update h₅ tb (Obj.mapFields (·.setIfInBounds 3 Value.none))
            have r6 := r₅.but hS6.extBut n5t y2 y3 y4
            have s56 : Step (fun a => (Fa env a ∨ a = ea) ∨ a = tb) ρ₅ ρ₅ h₅ (h₅.update tb (Obj.mapFields (·.setIfInBounds 3 Value.none))) := ⟨.refl _, fun b o e hb hq => ⟨o, hS6.extBut b o (fun q => hq (.inr q)) e, .refl _⟩, fun a h1 h2 => absurd h1 h2⟩
            have s16 := s15.trans s56 (nT r6 n5e n5t)
            refine hH (A.mark (some (.ref ea))) env ρ₅ hAm hE { s with heap := _, toks := tk₅ } ρ₅ _ (.refl _) r6 f σ' hd5 _ _ fun cf h₇ tk₇ ρ₇ R₇ r₇ st₇ => ?_
            have n7e : ea ∉ ρ₇ := fun q => by
              have := st₇.fresh ea q n5e
              have e6 := hS6.extBut ea _ (Ne.symm htbe) ea5
              cases this.symm.trans e6
            have n7t : tb ∉ ρ₇ := fun q => by
              have := st₇.fresh tb q n5t
              have e6 := Heap.get?_update_self (Obj.mapFields (·.setIfInBounds 3 Value.none)) tb5 (Obj.isFreed_of_fields (Obj.data_mapFields (Obj.data_mapFields hts _) _))
              cases this.symm.trans e6
            have s17 := s16.trans (st₇.weak fun a q => .inl (.inl q)) (nT r₇ n7e n7t)
            have s17' : Step (Fa env) ρ₁ ρ₇ h₁ h₇ := (s17.drop tfree1).drop hfree
            exact kk cf h₇ tk₇ ρ₇ R₇ r₇ (r₇.trans st₁ s17')
end
end Mine
end

section
open PySem PySem.W PyProof.Rows
set_option autoImplicit false
set_option linter.unusedVariables false
set_option maxRecDepth 100000
namespace Mine
/-! for x, y in d.items() -/
noncomputable def dItems (d ep n : Nat) (x y : Str) (db : M AFlow) : Nat → Nat → M AFlow
  | 0, _ => fail
  | m + 1, j => do
    match ← getO d with
    | .dict ep' kvs => if ep' = ep ∧ kvs.length = n then (match kvs[j]? with
        | none => pure .next
        | some kv => do
          setV x (.int kv.1)
          setV y kv.2
          match ← db with
          | .brk => pure .next
          | .ret u => pure (.ret u)
          | _ => dItems d ep n x y db m (j + 1)) else fail
    | _ => fail
noncomputable def asItems (v : AVal) : M (Nat × Nat × Nat) := match v with
  | .ref i => do
    match ← getO i with
    | .items d => do
      match ← getO d with
      | .dict ep kvs => pure (d, ep, kvs.length)
      | _ => fail
    | _ => fail
  | _ => fail
theorem asItems_some {v : AVal} {σ σ' : St} {p : Nat × Nat × Nat} (h : asItems v σ = some (p, σ')) : σ' = σ ∧ ∃ i kvs, v = .ref i ∧ σ.H[i]? = some (.items p.1) ∧ σ.H[p.1]? = some (.dict p.2.1 kvs) ∧ kvs.length = p.2.2 := by
  cases v with
  | ref i =>
    refine  bind_k h fun o σ₁ e1 e2 => ?_
    obtain ⟨q1, rfl⟩ := getO_some e1
    cases o with
    | items d =>
      refine  bind_k e2 fun o σ₂ e3 e4 => ?_
      obtain ⟨q2, rfl⟩ := getO_some e3
      cases o with
      | dict ep kvs => obtain ⟨rfl, rfl⟩ := pure_some e4; exact ⟨rfl, i, kvs, rfl, q1, q2, rfl⟩
      | _ => exact (fail_some (σ := σ₂) e4).elim
    | _ => exact (fail_some (σ := σ₁) e2).elim
  | _ => exact (fail_some (σ := σ) h).elim
section
variable {prog : Program} {w : World} {h₀ : Heap} {hd : Bool} {k : Nat} {sc : Scope} {K : Frag}
theorem dItems_k {d ep n m j : Nat} {x y : Str} {db : M AFlow} {σ σ' : St} {f : AFlow} {G : Prop} (h : dItems d ep n x y db (m + 1) j σ = some (f, σ'))
    (k0 : ∀ kvs, σ.H[d]? = some (.dict ep kvs) → kvs.length = n → kvs[j]? = none → f = .next → σ' = σ → G)
    (k1 : ∀ kvs key kval σ₅ σ₆ g σ₇, σ.H[d]? = some (.dict ep kvs) → kvs.length = n → kvs[j]? = some (key, kval) → setV x (.int key) σ = some ((), σ₅) → setV y kval σ₅ = some ((), σ₆) → db σ₆ = some (g, σ₇) →
      ((g = .brk ∧ f = .next ∧ σ' = σ₇) ∨ (∃ u, g = .ret u ∧ f = .ret u ∧ σ' = σ₇) ∨ ((g = .next ∨ g = .cont) ∧ dItems d ep n x y db m (j + 1) σ₇ = some (f, σ'))) → G) : G := by
  obtain ⟨o1, g2, hj1⟩ := getO_inv h
  clear h
  cases o1 with
  | dict ep' kvs' =>
    obtain ⟨⟨rfl, hkl⟩, hj1⟩ := ite_inv hj1
    cases hk : kvs'[j]? with
    | none =>
      rw [hk] at hj1
      obtain ⟨rfl, rfl⟩ := pure_some hj1
      exact k0 kvs' g2 hkl hk rfl rfl
    | some kv =>
      rw [hk] at hj1
      obtain ⟨key, kval⟩ := kv
      refine  bind_k hj1 fun _ σ₅ g3 hj2 => bind_k hj2 fun _ σ₆ g4 hj3 => bind_k hj3 fun g σ₇ g5 g6 => k1 kvs' key kval σ₅ σ₆ g σ₇ g2 hkl hk g3 g4 g5 ?_
      cases g with
      | next => exact .inr (.inr ⟨.inl rfl, g6⟩)
      | cont => exact .inr (.inr ⟨.inr rfl, g6⟩)
      | brk => obtain ⟨rfl, rfl⟩ := pure_some g6; exact .inl ⟨rfl, rfl, rfl⟩
      | ret u => obtain ⟨rfl, rfl⟩ := pure_some g6; exact .inr (.inl ⟨u, rfl, rfl, rfl⟩)
  | _ => exact (fail_some (σ := σ) hj1).elim
theorem s_items {x y : Str} {px py tp : Pos} {tk : Nat} {iter : Expr} {body : List Stmt} {pos : Pos} {di : M AVal} {db : M AFlow} (n : Nat) (hi : SimE prog w h₀ true k sc iter di) (hx : sc.names.lookup x = some .local ∨ sc.names.lookup x = some .cell)
    (hy : sc.names.lookup y = some .local ∨ sc.names.lookup y = some .cell) (hb : SimB prog w h₀ true k sc body db)
    (hs : ∀ env x, foldedSetIterable iter env x = pure x := by intro _ _; rfl)
    (hae : ∀ env, assignEach [.Name x px, .Name y py] env = [(false, assign (.Name x px) env), (false, assign (.Name y py) env)] := by intro _; rfl) :
    SimS prog w h₀ true k sc (.For (.Tuple [.Name x px, .Name y py] tk tp) iter body [] pos) (do let v ← di; let p ← asItems v; dItems p.1 p.2.1 p.2.2 x y db n 0) := by
  intro A env ρ₀ ha hE s ρ σ e₀ rr f σ' hd' Q E kk
  refine (let Gol : Prop := _; (?_ : Gol))
  refine  bind_k hd' fun v σ₁ e1 hd1 => bind_k hd1 fun p0 σ₂ e2 e3 => ?_
  clear hd' hd1
  obtain ⟨d, ep, nn⟩ := p0
  obtain ⟨rfl, i, kvs, rfl, q1, q2, q3⟩ := asItems_some e2
  dsimp only at q1 q2 q3 e3
  refine wpAny_For (hi A env ρ₀ ha hE s ρ σ e₀ rr _ _ e1 _ _ fun c h₁ tk₁ ρ₁ R₁ r₁ st₁ => ?_) (hs env)
  clear Gol
  refine (let Gol : Prop := _; (?_ : Gol))
  refine  getK_k r₁.hp q1 fun va p1 hy1 => ?_
  obtain ⟨da, p2, p3⟩ := hy1
  refine  dictAt_k r₁.hp q2 fun da' cvs p4 p5 p6 => ?_
  rw [p2] at p4; cases p4
  unfold Gol; clear Gol
  rw [R₁.eq_ref p1]
  refine wpAny_pyIter_items (s := { s with heap := h₁, toks := tk₁ }) p3 p5 ?_
  have hI1 : h₁.get? h₁.objs.size = none := free_of_ge (Nat.le_refl _)
  have hIρ : h₁.objs.size ∉ ρ₁ := fun q => by obtain ⟨o', e'⟩ := r₁.hp.alive q; rw [hI1] at e'; cases e'
  have hIf : ¬ Fa env h₁.objs.size := fun q => by obtain ⟨o', e'⟩ := r₁.fr.alive q; rw [hI1] at e'; cases e'
  have hI0 : h₀.get? h₁.objs.size = none := by
    cases q : h₀.get? h₁.objs.size with
    | none => rfl
    | some o' => have := r₁.hp.keep _ o' q; rw [hI1] at this; cases this
  have hIn := r₁.fo.noFr hI1
  generalize hI : h₁.objs.size = I at hI1 hIρ hIf hI0 hIn
  have hcl : cvs.length = nn := by rw [p6.length, q3]
  have hsame : ∀ b o, h₁.get? b = some o → (h₁.push { cls := .type "dict_itemiterator", data := .fields #[.none, .bool false, .ref da, .int 0 0, .int cvs.length 0, .int ep 0, .none, .none] }).get? b = some o := fun b o e => Heap.get?_push_of_some _ e
  have it0 : IsItemIter (h₁.push { cls := .type "dict_itemiterator", data := .fields #[.none, .bool false, .ref da, .int 0 0, .int cvs.length 0, .int ep 0, .none, .none] }) I da 0 nn ep .none .none := by
    rw [← hcl, ← hI]; exact Heap.get?_push_size _ rfl
  refine (let Inv : Nat → Shared → Prop := fun m s' => ∃ h' tk ρ' σ₃ j ok ov, s' = { s with heap := h', toks := tk } ∧ Rel prog w h₀ A.frames env ρ' σ₃ h' ∧ Step (fun a => Fa env a ∨ a = I) ρ₁ ρ' h₁ h' ∧ dItems d ep nn x y db m j σ₃ = some (f, σ') ∧ IsItemIter h' I da j nn ep ok ov ∧ I ∉ ρ' ∧ ρ'[d]? = some da; codeAny_forLoop_any Inv ?_ n
    ⟨_, tk₁, ρ₁, σ₂, 0, .none, .none, rfl, r₁.same hsame, .same hsame, e3, it0, hIρ, p2⟩)
  intro m s' hz0
  refine (let Gol : Prop := _; (?_ : Gol))
  obtain ⟨h', tk, ρ', σ₃, j, ok, ov, hz1, hz2⟩ := hz0
  unfold Gol; clear Gol
  subst hz1
  refine (let Gol : Prop := _; (?_ : Gol))
  obtain ⟨r', st', hj, hit, hIρ', hda⟩ := hz2
  unfold Gol; clear Gol
  have up : ∀ {h₂ h₃ : Heap} {σ₄ : St} {ρ₄ : Rho}, Rel prog w h₀ A.frames env ρ₄ σ₄ h₂ → I ∉ ρ₄ → Heap.ExtBut I h₂ h₃ → Rel prog w h₀ A.frames env ρ₄ σ₄ h₃ := fun r hn hs => r.but hs hn hIf hI0 hIn
  have stI : ∀ {h₂ h₃ : Heap} {ρ₄ : Rho}, Heap.ExtBut I h₂ h₃ → Step (fun a => Fa env a ∨ a = I) ρ₄ ρ₄ h₂ h₃ := fun hs => ⟨.refl _, fun b o e hb hq => ⟨o, hs b o (fun q => hq (.inr q)) e, .refl _⟩, fun a h1 h2 => absurd h1 h2⟩
  have nT : ∀ {ρ₄ : Rho} {σ₄ : St} {h₄ : Heap}, Rel prog w h₀ A.frames env ρ₄ σ₄ h₄ → I ∉ ρ₄ → ∀ a, (Fa env a ∨ a = I) → a ∉ ρ₄ := fun r hn a q => q.elim (fun q => (r.fr.out a q).1) fun q => q ▸ hn
  have last : ∀ {c : Flow} {h₃ : Heap} {tk₃ : Nat} {ρ₃ : Rho}, FR ρ₃ f c → Rel prog w h₀ A.frames env ρ₃ σ' h₃ → Step (fun a => Fa env a ∨ a = I) ρ₁ ρ₃ h₁ h₃ → Q c { s with heap := h₃, toks := tk₃ } := fun R r st => kk _ _ _ _ R r (r.trans st₁ (st.drop hI1))
  cases m with
  | zero => exact (fail_some (σ := σ₃) hj).elim
  | succ m =>
    refine (let Qq := _; (?_ : wpAny _ _ _ Qq _ _))
    refine (let Gol : Prop := _; (?_ : Gol))
    refine dItems_k hj (fun kvs' g2 hkl hk hf hσ => ?_) fun kvs' key kval σ₅ σ₆ g σ₇ g2 hkl hk g3 g4 g5 g6 => ?_
    · refine  dictAt_k r'.hp g2 fun da' cvs' w1 w2 w3 => ?_
      rw [hda] at w1; cases w1
      have hl' : cvs'.length = nn := by rw [w3.length, hkl]
      subst hf hσ
      next =>
        next =>
          refine wpAny_pyNext_items_end (s := { s with heap := h', toks := tk }) (knd := intKind prog w) (ha.handled rfl) (by rw [hl']; exact hit) w2 (w3.getNone hk) fun h₂ hs2 => wpAny_execs_nil ?_
          exact last rfl (up r' hIρ' hs2) (st'.trans (stI hs2) (nT (up r' hIρ' hs2) hIρ'))
    · refine  dictAt_k r'.hp g2 fun da' cvs' w1 w2 w3 => ?_
      rw [hda] at w1; cases w1
      have hl' : cvs'.length = nn := by rw [w3.length, hkl]
      next =>
        next =>
          obtain ⟨cv, w4, w5⟩ := w3.get hk
          dsimp only at w5
          refine wpAny_pyNext_items_item (s := { s with heap := h', toks := tk }) (knd := intKind prog w) (by rw [hl']; exact hit) w2 w4 fun ckey h₂ hkey hout htup hsz hs2 => ?_
          rw [hl'] at hout
          obtain ⟨t, rfl⟩ := Value.isInt_shape hkey
          have r2 := up r' hIρ' hs2
          have a2 := st'.trans (stI hs2) (nT r2 hIρ')
          refine wpAny_letOwnedTupleGo_items (s := { s with heap := h₂, toks := tk }) hout fun h₃ hit3 hs3 => ?_
          have r3 := up r2 hIρ' hs3.extBut
          have a3 := a2.trans (stI hs3.extBut) (nT r3 hIρ')
          have hIlt : I < h'.objs.size := Heap.lt_size hit
          have htup3 := hs3.extBut _ _ (Nat.ne_of_gt hIlt) htup
          refine wpAny_assign_Tuple (s := { s with heap := h₃, toks := tk }) (items := #[.int key t, cv]) (ha.handled rfl) ⟨_, htup3, rfl, 0, rfl⟩ (by rw [hae]; rfl) (by rw [hae]; rfl) fun h₄ hs4 => ?_
          have k4 : ∀ b o, h₃.get? b = some o → h₄.get? b = some o := fun b o e => hs4 b o (Nat.ne_of_lt (Heap.lt_size e)) e
          have r4 := r3.same k4
          have a4 := a3.trans (.same k4) (nT r4 hIρ')
          have hit4 := k4 _ _ hit3
          rw [hae]
          refine wpAny_assignInOrder_more (bnd_name (k := k) (hd := true) (v := .int key) hx ha hE ⟨t, rfl⟩ _ ρ' _ (.refl _) r4 () σ₅ g3 _ _ fun _ h₅ tk₅ ρ₅ _ r₅ st₅ => ?_)
          have n5 : I ∉ ρ₅ := fun q => by have := st₅.fresh I q hIρ'; cases this.symm.trans hit4
          have a5 := a4.trans (st₅.weak fun a q => .inl q) (nT r₅ n5)
          have hit5 := st₅.exact hit4 hIρ' hIf (fun es ep q => by cases q)
          refine wpAny_assignInOrder_more (bnd_name (k := k) (hd := true) hy ha hE (w5.ext st₅.ext) _ ρ₅ _ (.refl _) r₅ () σ₆ g4 _ _ fun _ h₆ tk₆ ρ₆ _ r₆ st₆ => wpAny_assignInOrder_none ?_)
          have n6 : I ∉ ρ₆ := fun q => by have := st₆.fresh I q n5; cases this.symm.trans hit5
          have a6 := a5.trans (st₆.weak fun a q => .inl q) (nT r₆ n6)
          have hit6 := st₆.exact hit5 n5 hIf (fun es ep q => by cases q)
          refine hb A env ρ₆ ha hE _ ρ₆ σ₆ (.refl _) r₆ g σ₇ g5 _ _ fun c₂ h₇ tk₇ ρ₇ R₇ r₇ st₇ => ?_
          have n7 : I ∉ ρ₇ := fun q => by have := st₇.fresh I q n6; cases this.symm.trans hit6
          have a7 := a6.trans (st₇.weak fun a q => .inl q) (nT r₇ n7)
          have hit7 := st₇.exact hit6 n6 hIf (fun es ep q => by cases q)
          have hda7 := st₇.ext _ _ (st₆.ext _ _ (st₅.ext _ _ hda))
          refine (let Gol : Prop := _; (?_ : Gol))
          rcases g6 with ⟨rfl, rfl, rfl⟩ | ⟨u, rfl, rfl, rfl⟩ | ⟨rfl | rfl, g6⟩
          · cases R₇; exact last rfl r₇ a7
          · obtain ⟨c', rfl, R⟩ := R₇; exact last ⟨c', rfl, R⟩ r₇ a7
          · cases R₇; unfold Gol; exact ⟨m, Nat.lt_succ_self _, h₇, tk₇, ρ₇, σ₇, j + 1, _, _, rfl, r₇, a7, g6, hit7, n7, hda7⟩
          · cases R₇; unfold Gol; exact ⟨m, Nat.lt_succ_self _, h₇, tk₇, ρ₇, σ₇, j + 1, _, _, rfl, r₇, a7, g6, hit7, n7, hda7⟩
end
end Mine
end

section
open PySem PySem.W PyProof.Rows
set_option autoImplicit false
set_option linter.unusedVariables false
set_option maxRecDepth 100000
namespace Mine
noncomputable abbrev KK (P : Params) : Frag := Hd.hdK P
/-- a def of the text -/
noncomputable def fnAt (P : Params) (a : Addr) : FuncData := match (KK P).lookup a with
  | some ⟨_, _, .func fd, _⟩ => fd
  | _ => default
noncomputable def bodyAt (P : Params) (a : Addr) : List Stmt := match (fnAt P a).body with
  | .stmts b => b
  | _ => []
noncomputable def isFnB (P : Params) (a : Addr) : Bool := match (KK P).lookup a with
  | some ⟨_, _, .func fd, _⟩ => (match fd.body with | .stmts _ => true | _ => false)
  | _ => false
theorem fnAt_look {P : Params} {a : Addr} (h : isFnB P a = true) : (∃ oc od osl, (KK P).lookup a = some ⟨oc, od, .func (fnAt P a), osl⟩) ∧ (fnAt P a).body = .stmts (bodyAt P a) := by
  unfold isFnB at h
  split at h
  · rename_i oc od fd osl e
    have e1 : fnAt P a = fd := by unfold fnAt; rw [e]
    split at h
    · rename_i b hb
      refine ⟨⟨oc, od, osl, by rw [e1]; exact e⟩, ?_⟩
      unfold bodyAt
      rw [e1, hb]
    · cases h
  · cases h

section
variable {prog : Program} {w : World} {h₀ : Heap} {k : Nat} {P : Params}
noncomputable def okFn (P : Params) (f : Addr) : Bool := isFnB P f && codeIn (KK P) (fnAt P f).code (fnAt P f).qualname && (fnAt P f).closure.isEmpty && (fnAt P f).globals == mainGlobals && (fnAt P f).builtins == builtinsNs && (fnAt P f).scope.kind == .function && !(fnAt P f).scope.isCoroutine && !(fnAt P f).scope.isGenerator
theorem fn_ok (G : Gnd (KK P) h₀) {f : Addr} {vs : List AVal} {bd : List AObj → Option (List (Str × AVal) × List AObj)} {db : M AFlow} (ok : okFn P f = true)
    (hb : BindSim prog w h₀ (fnAt P f) vs bd) (hkind : ∀ H l H', bd H = some (l, H') → ∀ x ∈ l, (fnAt P f).scope.names.lookup x.1 = some .local ∨ (fnAt P f).scope.names.lookup x.1 = some .cell)
    (hB : SimB prog w h₀ true k (fnAt P f).scope (bodyAt P f) db) : SimF prog w h₀ (k + 1) (.ref f) vs (runF bd db) := by
  unfold okFn at ok
  simp only [Bool.and_eq_true, Bool.not_eq_true', beq_iff_eq, List.isEmpty_iff] at ok
  obtain ⟨⟨⟨⟨⟨⟨⟨o1, o2⟩, o3⟩, o4⟩, o5⟩, o6⟩, o7⟩, o8⟩ := ok
  obtain ⟨⟨oc, od, osl, o9⟩, o10⟩ := fnAt_look o1
  exact fn_def G o9 o2 o10 o3 o4 o5 o6 o7 o8 hb hkind hB
theorem kind2 {sc : Scope} {x y : Str} {vs : List AVal} (hx : sc.names.lookup x = some .local ∨ sc.names.lookup x = some .cell) (hy : sc.names.lookup y = some .local ∨ sc.names.lookup y = some .cell) :
    ∀ H l H', bd2 x y vs H = some (l, H') → ∀ z ∈ l, sc.names.lookup z.1 = some .local ∨ sc.names.lookup z.1 = some .cell := by
  intro H l H' e z hz
  unfold bd2 at e
  split at e
  · cases e
    simp only [List.mem_cons, List.not_mem_nil, or_false] at hz
    rcases hz with rfl | rfl
    · exact hx
    · exact hy
  · cases e
noncomputable def dAnd : M AFlow := do let v ← (do let a ← getV "a"; let b ← getV "b"; intsA fAnd a b); pure (.ret v)
theorem sim_and (G : Gnd (KK P) h₀) (vs : List AVal) : SimF prog w h₀ (k + 1) (.ref 157) vs (runF (bd2 "a" "b" vs) dAnd) :=
  fn_ok G (by kernel_rfl) (bs2 fun c d => by kernel_rfl) (kind2 (.inl (by kernel_rfl)) (.inl (by kernel_rfl))) (b_one (s_ret (binOp (nm_local (by kernel_rfl)) (nm_local (by kernel_rfl)) op_and)))
end
end Mine
end

section
open PySem PySem.W PyProof.Rows
set_option autoImplicit false
set_option linter.unusedVariables false
set_option maxRecDepth 100000
namespace Mine
/-! the words of the denotations -/
noncomputable abbrev I (i : Int) : M AVal := pure (.int i)
noncomputable abbrev bin (f : AVal → AVal → M AVal) (l r : M AVal) : M AVal := do let a ← l; let b ← r; f a b
noncomputable abbrev cmp (f : AVal → AVal → M Bool) (l r : M AVal) : M Bool := do let a ← l; let b ← r; f a b
noncomputable abbrev neg (d : M AVal) : M AVal := do match ← d with | .int i => pure (.int (-i)) | _ => fail
noncomputable abbrev asg (x : Str) (d : M AVal) : M AFlow := do let v ← d; setV x v; pure .next
noncomputable abbrev rets (d : M AVal) : M AFlow := do let v ← d; pure (.ret v)
noncomputable abbrev exprs (d : M AVal) : M AFlow := do let _ ← d; pure .next
noncomputable abbrev a0 : M (List AVal) := pure []
noncomputable abbrev ac (d : M AVal) (ds : M (List AVal)) : M (List AVal) := do let v ← d; let vs ← ds; pure (v :: vs)
noncomputable abbrev ifs (t : M Bool) (a b : M AFlow) : M AFlow := do if ← t then a else b
noncomputable abbrev fnc (D : List AVal → M AVal) (ds : M (List AVal)) : M AVal := do let vs ← ds; D vs
noncomputable abbrev meth (T : String) (o : M AVal) (D : List AVal → M AVal) (ds : M (List AVal)) : M AVal := do let ov ← o; chkT T ov; let vs ← ds; D (ov :: vs)
noncomputable abbrev setI (o i v : M AVal) : M AFlow := do let v ← v; let o ← o; let i ← i; setA o i v; pure .next
noncomputable abbrev forL (x : Str) (n : Nat) (d : M AVal) (b : M AFlow) : M AFlow := do let v ← d; let nx ← mkNx v; dLoop nx (setV x) b n 0
noncomputable abbrev eqI : AVal → AVal → M Bool := cmpI fun a b => a == b
section
variable {prog : Program} {w : World} {h₀ : Heap} {hd : Bool} {k : Nat} {sc : Scope} {P : Params}
theorem nl {x : Str} {pos : Pos} (hx : sc.names.lookup x = some .local := by kernel_rfl) (hn : (x == ("__debug__" : Str)) = false := by decide) : SimE prog w h₀ hd k sc (.Name x pos) (getV x) := nm_local hx hn
theorem nc {x : Str} {pos : Pos} (hx : sc.names.lookup x = some .cell := by kernel_rfl) (hn : (x == ("__debug__" : Str)) = false := by decide) : SimE prog w h₀ hd k sc (.Name x pos) (getV x) := nm_cell hx hn
theorem ng (G : Gnd (KK P) h₀) {x : Str} {pos : Pos} {v : Value} (hx : sc.names.lookup x = some .globalImplicit := by kernel_rfl) (e : nsIn (KK P) mainGlobals x = some (some v) := by kernel_rfl) (hn : (x == ("__debug__" : Str)) = false := by decide) :
    SimE prog w h₀ hd k sc (.Name x pos) (pure (.stat v)) := nm_global G hx e hn
theorem nb (G : Gnd (KK P) h₀) {x : Str} {pos : Pos} {v : Value} (hx : sc.names.lookup x = some .globalImplicit := by kernel_rfl) (e : nsIn (KK P) mainGlobals x = some none := by kernel_rfl) (hv : bootBuiltins x = some v := by kernel_rfl) (hne : x ≠ "__name__" := by decide) (hn : (x == ("__debug__" : Str)) = false := by decide) :
    SimE prog w h₀ hd k sc (.Name x pos) (pure (.stat v)) := nm_builtin G hx e hv hne hn
theorem ngi (G : Gnd (KK P) h₀) {x : Str} {pos : Pos} {i : Int} {t : Tok} (hx : sc.names.lookup x = some .globalImplicit := by kernel_rfl) (e : nsIn (KK P) mainGlobals x = some (some (.int i t)) := by kernel_rfl) (hn : (x == ("__debug__" : Str)) = false := by decide) :
    SimE prog w h₀ hd k sc (.Name x pos) (pure (.int i)) := by
  intro A env ρ₀ ha he s ρ σ e₀ rr v σ' hd' Q E kk
  obtain ⟨rfl, rfl⟩ := pure_some hd'
  exact nm_global (hd := hd) (k := k) G hx e hn A env ρ₀ ha he s ρ _ e₀ rr _ _ rfl Q E fun c h₁ tk₁ ρ₁ R₁ r₁ st₁ => kk c h₁ tk₁ ρ₁ ⟨t, R₁⟩ r₁ st₁
theorem sa {x : Str} {value : Expr} {pos' pos : Pos} {dv : M AVal} (hv : SimE prog w h₀ hd k sc value dv) (hx : sc.names.lookup x = some .local := by kernel_rfl)
    (hs : ∀ env, swapsWith value (some (.Name x pos')) pos.line env = pure false := by intro _; rfl) :
    SimS prog w h₀ hd k sc (.Assign [.Name x pos'] value pos) (do let v ← dv; setV x v; pure .next) := s_assign hv (.inl hx) hs
theorem sac {x : Str} {value : Expr} {pos' pos : Pos} {dv : M AVal} (hv : SimE prog w h₀ hd k sc value dv) (hx : sc.names.lookup x = some .cell := by kernel_rfl)
    (hs : ∀ env, swapsWith value (some (.Name x pos')) pos.line env = pure false := by intro _; rfl) :
    SimS prog w h₀ hd k sc (.Assign [.Name x pos'] value pos) (do let v ← dv; setV x v; pure .next) := s_assign hv (.inr hx) hs
theorem inter_fn {env : Env} (he : EOk sc env) : interactive env = false := by
  unfold interactive
  rw [he.scope, he.fn]; rfl
theorem se {value : Expr} {pos : Pos} {dv : M AVal} (hv : SimE prog w h₀ hd k sc value dv) (hs : ∀ env, swapsWith value none pos.line env = pure false := by intro _; rfl) :
    SimS prog w h₀ hd k sc (.Expr value pos) (do let _ ← dv; pure .next) := s_expr hv (fun env he => inter_fn he) hs
theorem sf {x : Str} {px : Pos} {iter : Expr} {body : List Stmt} {pos : Pos} {di : M AVal} {db : M AFlow} (n : Nat) (hi : SimE prog w h₀ true k sc iter di) (hb : SimB prog w h₀ true k sc body db) (hx : sc.names.lookup x = some .local := by kernel_rfl)
    (hs : ∀ env x, foldedSetIterable iter env x = pure x := by intro _ _; rfl) :
    SimS prog w h₀ true k sc (.For (.Name x px) iter body [] pos) (do let v ← di; let nx ← mkNx v; dLoop nx (setV x) db n 0) :=
  s_for n hi (fun A env ρ v c ha he hv => bnd_name (.inl hx) ha he hv) hb hs (by intro _ _; rfl)
theorem sfc {x : Str} {px : Pos} {iter : Expr} {body : List Stmt} {pos : Pos} {di : M AVal} {db : M AFlow} (n : Nat) (hi : SimE prog w h₀ true k sc iter di) (hb : SimB prog w h₀ true k sc body db) (hx : sc.names.lookup x = some .cell := by kernel_rfl)
    (hs : ∀ env x, foldedSetIterable iter env x = pure x := by intro _ _; rfl) :
    SimS prog w h₀ true k sc (.For (.Name x px) iter body [] pos) (do let v ← di; let nx ← mkNx v; dLoop nx (setV x) db n 0) :=
  s_for n hi (fun A env ρ v c ha he hv => bnd_name (.inr hx) ha he hv) hb hs (by intro _ _; rfl)
theorem sfi {x : Str} {px : Pos} {iter : Expr} {body : List Stmt} {pos : Pos} {di : M AVal} {db : M AFlow} (n : Nat) (hi : SimE prog w h₀ true k sc iter di) (hb : SimB prog w h₀ true k sc body db) (hx : sc.names.lookup x = some .local := by kernel_rfl)
    (hs : ∀ env x, foldedSetIterable iter env x = pure x := by intro _ _; rfl) :
    SimS prog w h₀ true k sc (.For (.Name x px) iter body [] pos) (do let v ← di; let i ← asIter v; dLoopIt i (setV x) db n) :=
  s_forIt n hi (fun A env ρ v c ha he hv => bnd_name (.inl hx) ha he hv) hb hs (by intro _ _; rfl)

noncomputable def dMul : M AFlow := rets (bin (intsA fMul) (getV "a") (getV "b"))
theorem sim_mul (G : Gnd (KK P) h₀) (vs : List AVal) : SimF prog w h₀ (k + 1) (.ref 164) vs (runF (bd2 "a" "b" vs) dMul) :=
  fn_ok G (by kernel_rfl) (bs2 fun c d => by kernel_rfl) (kind2 (.inl (by kernel_rfl)) (.inl (by kernel_rfl))) (b_one (s_ret (binOp nl nl op_mul)))
noncomputable def dSub : M AFlow := rets (bin (intsA fSub) (getV "a") (getV "b"))
theorem sim_sub (G : Gnd (KK P) h₀) (vs : List AVal) : SimF prog w h₀ (k + 1) (.ref 171) vs (runF (bd2 "a" "b" vs) dSub) :=
  fn_ok G (by kernel_rfl) (bs2 fun c d => by kernel_rfl) (kind2 (.inl (by kernel_rfl)) (.inl (by kernel_rfl))) (b_one (s_ret (binOp nl nl op_sub)))
noncomputable def dGet : M AFlow := rets (bin subA (getV "a") (getV "b"))
theorem sim_get (G : Gnd (KK P) h₀) (vs : List AVal) : SimF prog w h₀ (k + 1) (.ref 178) vs (runF (bd2 "a" "b" vs) dGet) :=
  fn_ok G (by kernel_rfl) (bs2 fun c d => by kernel_rfl) (kind2 (.inl (by kernel_rfl)) (.inl (by kernel_rfl))) (b_one (s_ret (e_sub nl nl)))

/-! _law_wedge -/
noncomputable def dWin : M AFlow :=
  ifs (cmp eqI (bin (intsA fMod) (bin (intsA fShr) (getV "used") (getV "j")) (I 2)) (I 1))
    (asg "worth" (neg (getV "worth")))
    (seq (asg "now" (bin (intsA fAdd) (getV "used") (bin (intsA fPow) (I 2) (getV "j"))))
      (setI (getV "told") (getV "now") (bin (intsA fAdd) (meth "dict" (getV "told") getD1 (ac (getV "now") (ac (I 0) a0))) (bin (intsA fMul) (getV "worth") (bin subA (getV "row") (getV "j"))))))
noncomputable def dWout : M AFlow := seq (asg "worth" (bin subA (getV "forms") (getV "used")))
  (forL "j" 100 (fnc rangeD (ac (bin (intsA fSub) (fnc lenA (ac (getV "row") a0)) (I 1)) (ac (neg (I 1)) (ac (neg (I 1)) a0)))) dWin)
noncomputable def dWedge : M AFlow := seq (asg "told" (newO (.dict 0 []))) (seq (forL "used" 1000 (getV "forms") dWout) (rets (getV "told")))
theorem sim_wedge (G : Gnd (KK P) h₀) (vs : List AVal) : SimF prog w h₀ (k + 1) (.ref 190) vs (runF (bd2 "forms" "row" vs) dWedge) :=
  fn_ok G (by kernel_rfl) (bs2 fun c d => by kernel_rfl) (kind2 (.inl (by kernel_rfl)) (.inl (by kernel_rfl)))
    (b_cons (sa e_dict0) (b_cons (sf 1000 nl
      (b_cons (sa (e_sub nl nl)) (b_one (sf 100 (call_ty (nb G) (g_plain (a_cons (binOp (call_bi (nb G) (g_plain (a_cons nl a_nil)) bi_len) c_int op_sub) (a_cons (e_neg c_int) (a_cons (e_neg c_int) a_nil)))) ty_range)
        (b_one (s_if (cmpT (binOp (binOp nl nl op_shr) c_int op_mod) c_int cmp_eq) (b_one (sa (e_neg nl)))
          (b_cons (sa (binOp nl (binOp c_int nl op_pow) op_add)) (b_one (s_setItem (binOp (m_bi nl (g_plain (a_cons nl (a_cons c_int a_nil))) bi_get PySem.F.plainAttrs_dict PySem.F.slot_dict_get PySem.F.type_dict_get) (binOp nl (e_sub nl nl) op_mul) op_add) nl nl)))))))))
      (b_one (s_ret nl))))
end
end Mine
end

section
open PySem PySem.W PyProof.Rows
set_option autoImplicit false
set_option linter.unusedVariables false
set_option maxRecDepth 100000
namespace Mine
section
variable {prog : Program} {w : World} {h₀ : Heap} {hd : Bool} {k : Nat} {sc : Scope} {P : Params} {fd : FuncData}
theorem bsP2 {x y : Str} {vs : List AVal} (G : Gnd (KK P) h₀) (h : ∀ c d S, peek (KK P) S (bindArgs fd ⟨[c, d], []⟩) = some [(x, c), (y, d)]) : BindSim prog w h₀ fd vs (bd2 x y vs) := by
  intro A s ρ H cs r hvs l H' hd' Q E kk
  refine (let Gol : Prop := _; (?_ : Gol))
  obtain ⟨a, b, hq⟩ := args2 (F := fun vs => bd2 x y vs H) hd' rfl (fun _ => rfl) (fun _ _ _ _ => rfl)
  subst hq
  cases hd'
  obtain ⟨c, d, rfl, hc, hdd⟩ := hvs.two
  exact kp_binds (G.X.keeps r.keep) (h c d) _ A E Q (kk _ s.heap s.toks ρ (.cons hc (.cons hdd .nil)) r (.refl ..))
theorem bsPR {x y z : Str} {dflt : AVal} {cd : Value} {vs : List AVal} (G : Gnd (KK P) h₀) (hcd : ∀ ρ, VR ρ dflt cd) (h : ∀ c d S, peek (KK P) S (bindArgs fd ⟨[c, d], []⟩) = some [(x, c), (y, d), (z, cd)])
    (h3 : ∀ c d e S, peek (KK P) S (bindArgs fd ⟨[c, d, e], []⟩) = some [(x, c), (y, d), (z, e)]) : BindSim prog w h₀ fd vs (bdR x y z dflt vs) := by
  intro A s ρ H cs r hvs l H' hd' Q E kk
  refine (let Gol : Prop := _; (?_ : Gol))
  cases vs with
  | nil => cases hd'
  | cons a l => cases l with
   | nil => cases hd'
   | cons b l => cases l with
    | nil =>
     cases hd'
     obtain ⟨c, d, rfl, hc, hdd⟩ := hvs.two
     exact kp_binds (G.X.keeps r.keep) (h c d) _ A E Q (kk _ s.heap s.toks ρ (.cons hc (.cons hdd (.cons (hcd ρ) .nil))) r (.refl ..))
    | cons c' l => cases l with
     | cons _ _ => cases hd'
     | nil =>
      cases hd'
      obtain ⟨c, d, e, rfl, hc, hdd, he⟩ := hvs.three
      exact kp_binds (G.X.keeps r.keep) (h3 c d e) _ A E Q (kk _ s.heap s.toks ρ (.cons hc (.cons hdd (.cons he .nil))) r (.refl ..))
theorem kind1 {x : Str} {vs : List AVal} (hx : sc.names.lookup x = some .local ∨ sc.names.lookup x = some .cell) :
    ∀ H l H', bd1 x vs H = some (l, H') → ∀ z ∈ l, sc.names.lookup z.1 = some .local ∨ sc.names.lookup z.1 = some .cell := by
  intro H l H' e z hz
  unfold bd1 at e
  split at e
  · cases e
    simp only [List.mem_cons, List.not_mem_nil, or_false] at hz
    subst hz; exact hx
  · cases e
theorem kindR {x y u : Str} {d : AVal} {vs : List AVal} (hx : sc.names.lookup x = some .local ∨ sc.names.lookup x = some .cell) (hy : sc.names.lookup y = some .local ∨ sc.names.lookup y = some .cell) (hu : sc.names.lookup u = some .local ∨ sc.names.lookup u = some .cell) :
    ∀ H l H', bdR x y u d vs H = some (l, H') → ∀ z ∈ l, sc.names.lookup z.1 = some .local ∨ sc.names.lookup z.1 = some .cell := by
  intro H l H' e z hz
  unfold bdR at e
  split at e
  all_goals first
    | (cases e; done)
    | (cases e
       simp only [List.mem_cons, List.not_mem_nil, or_false] at hz
       rcases hz with rfl | rfl | rfl
       · exact hx
       · exact hy
       · exact hu)
theorem kindS1 {x u : Str} {vs : List AVal} (hx : sc.names.lookup x = some .local ∨ sc.names.lookup x = some .cell) (hu : sc.names.lookup u = some .local ∨ sc.names.lookup u = some .cell) :
    ∀ H l H', bdS1 x u vs H = some (l, H') → ∀ z ∈ l, sc.names.lookup z.1 = some .local ∨ sc.names.lookup z.1 = some .cell := by
  intro H l H' e z hz
  unfold bdS1 at e
  split at e
  · split at e
    · cases e
      simp only [List.mem_cons, List.not_mem_nil, or_false] at hz
      rcases hz with rfl | rfl
      · exact hx
      · exact hu
    · cases e
  · cases e
theorem kindS2 {x y u : Str} {vs : List AVal} (hx : sc.names.lookup x = some .local ∨ sc.names.lookup x = some .cell) (hy : sc.names.lookup y = some .local ∨ sc.names.lookup y = some .cell) (hu : sc.names.lookup u = some .local ∨ sc.names.lookup u = some .cell) :
    ∀ H l H', bdS2 x y u vs H = some (l, H') → ∀ z ∈ l, sc.names.lookup z.1 = some .local ∨ sc.names.lookup z.1 = some .cell := by
  intro H l H' e z hz
  unfold bdS2 at e
  split at e
  · split at e
    · cases e
      simp only [List.mem_cons, List.not_mem_nil, or_false] at hz
      rcases hz with rfl | rfl | rfl
      · exact hx
      · exact hy
      · exact hu
    · cases e
  · cases e

/-! reduce -/
noncomputable abbrev callV (f : Addr) (df : M AVal) (dargs : M (List AVal)) (D : List AVal → List AObj → Option (AVal × List AObj)) : M AVal := do
  match ← df with
  | .stat (.ref g) => if g = f then (do let vs ← dargs; onH (D vs)) else fail
  | _ => fail
noncomputable def dRedB (f : Addr) (D : List AVal → List AObj → Option (AVal × List AObj)) : M AFlow := asg "value" (callV f (getV "function") (ac (getV "value") (ac (getV "element") a0)) D)
noncomputable def dReduce (f : Addr) (D : List AVal → List AObj → Option (AVal × List AObj)) : M AFlow :=
  seq (asg "it" (fnc iterD (ac (getV "sequence") a0)))
    (seq (ifs (cmp (isStat 22) (getV "initial") (pure (.stat (.ref 22)))) (asg "value" (fnc nextD (ac (getV "it") a0))) (asg "value" (getV "initial")))
      (seq (do let v ← getV "it"; let i ← asIter v; dLoopIt i (setV "element") (dRedB f D) 1000) (rets (getV "value"))))
theorem look22 : ∃ o, (KK P).lookup 22 = some o := by
  cases e : (KK P).lookup 22 with
  | some o => exact ⟨o, rfl⟩
  | none =>
    have : ((KK P).lookup 22).isSome = true := by kernel_rfl
    rw [e] at this; cases this
theorem sim_reduce (G : Gnd (KK P) h₀) {f : Addr} (hfn : isFnB P f = true) {D : List AVal → List AObj → Option (AVal × List AObj)} (hF : ∀ vs, SimF prog w h₀ k (.ref f) vs (D vs)) (vs : List AVal) :
    SimF prog w h₀ (k + 1) (.ref 30) vs (runF (bdR "function" "sequence" "initial" (.stat (.ref 22)) vs) (dReduce f D)) := by
  obtain ⟨⟨oc, od, osl, ho⟩, _⟩ := fnAt_look hfn
  obtain ⟨o22, h22⟩ := look22 (P := P)
  exact fn_ok G (by kernel_rfl) (bsPR G (fun ρ => rfl) (fun c d S => by kernel_rfl) (fun c d e S => by kernel_rfl)) (kindR (.inl (by kernel_rfl)) (.inl (by kernel_rfl)) (.inl (by kernel_rfl)))
    (b_cons (sa (call_bi (nb G) (g_plain (a_cons nl a_nil)) bi_iter))
      (b_cons (s_if (cmpT nl (ng G) (cmp_isStat G h22)) (b_one (s_tryOk (b_one (sa (call_bi (nb G) (g_plain (a_cons nl a_nil)) bi_next))))) (b_one (sa nl)))
        (b_cons (sfi 1000 nl (b_one (sa (call_val G ho nl (g_plain (a_cons nl (a_cons nl a_nil))) hF)))) (b_one (s_ret nl)))))

/-! _NodeInfo.__init__ -/
noncomputable def dNode : M AFlow :=
  seq (do let u ← getV "node"; let v ← getV "self"; setSlD 49 0 v u; pure .next)
    (seq (do let u ← I 0; let v ← getV "self"; setSlD 49 1 v u; pure .next)
      (do let u ← (do let vs ← a0; if vs.length ≤ 1000 then newO (.list vs) else fail); let v ← getV "self"; setSlD 49 2 v u; pure .next))
theorem set49 (G : Gnd (KK P) h₀) {name : Str} {p : Addr} {j : Nat} (ht : takerIn (KK P) 49 name = some (some (.ref p)) := by kernel_rfl) (hT : typeIn (KK P) (.ref p) = some (.type "member_descriptor") := by kernel_rfl) (hi : slotIn (KK P) p 49 = some j := by kernel_rfl) (hz : j < 1000 := by decide) :
    SetA prog w h₀ name (setSlD 49 j) := set_S G (by kernel_rfl) (by kernel_rfl) ht hT hi hz
theorem get49 (G : Gnd (KK P) h₀) {name : Str} {p : Addr} {j : Nat} (hg : plainGet (KK P) 49 name = true := by kernel_rfl) (ha : findIn (KK P) (.ref 49) name = some (some (.ref p)) := by kernel_rfl)
    (hn : specialIn (KK P) (.ref p) "__get__" = some (some (.builtin "member_descriptor.__get__")) := by kernel_rfl) (ht : takesIn (KK P) (.ref p) = some true := by kernel_rfl) (hp : slotIn (KK P) p 49 = some j := by kernel_rfl) : GetA prog w h₀ name (getSl 49 j) :=
  get_S G hg (by kernel_rfl) ha hn ht hp
theorem sim_node (G : Gnd (KK P) h₀) (vs : List AVal) : SimF prog w h₀ (k + 1) (.ref 45) vs (runF (bd2 "self" "node" vs) dNode) :=
  fn_ok G (by kernel_rfl) (bs2 fun c d => by kernel_rfl) (kind2 (.inl (by kernel_rfl)) (.inl (by kernel_rfl)))
    (b_cons (s_setAttr nl nl (set49 G (p := 50))) (b_cons (s_setAttr c_int nl (set49 G (p := 51))) (b_one (s_setAttr (e_list a_nil) nl (set49 G (p := 52))))))
end
end Mine
end

section
open PySem PySem.W PyProof.Rows
set_option autoImplicit false
set_option linter.unusedVariables false
set_option maxRecDepth 100000
namespace Mine
/-! comprehensions, by the names they catch -/
noncomputable def loF (fv : List Str) (lo : Lo) : Lo := fun y => if y ∈ fv then lo y else none
noncomputable def dCompF (fv : List Str) (di : M AVal) (tgt : Str) (dt : M Bool) (de : M AVal) (n : Nat) : M AVal := do
  let v ← di
  let nx ← mkNx v
  fun σ => (dCompL nx tgt dt de σ.H.length n 0 ⟨loF fv σ.lo, σ.H ++ [.list []]⟩).map fun p => (.ref σ.H.length, ⟨σ.lo, p.2.H⟩)
noncomputable def compOk (sc scope : Scope) (fv : List Str) (x : Str) : Bool :=
  scope.kind == .function && scope.names.all (fun p => p.2 != .cell && (p.2 != .free || sc.names.lookup p.1 == some .cell) && scope.names.lookup p.1 == some p.2) && scope.names.lookup x == some .local &&
    (scope.names.filterMap fun p => if p.2 == .free then some p.1 else none) == fv
theorem loC_eq {sc scope : Scope} {fv : List Str} {x : Str} (h : compOk sc scope fv x = true) (lo : Lo) : loC scope lo = loF fv lo := by
  unfold compOk at h
  simp only [Bool.and_eq_true, List.all_eq_true, beq_iff_eq] at h
  obtain ⟨⟨⟨h1, h2⟩, h3⟩, h4⟩ := h
  funext y
  unfold loC loF
  have : (scope.names.lookup y = some .free) ↔ y ∈ fv := by
    rw [← h4, List.mem_filterMap]
    constructor
    · intro e
      exact ⟨(y, .free), mem_of_lookup e, by simp⟩
    · intro hz1
      try clear Gol
      refine (let Gol : Prop := _; (?_ : Gol))
      obtain ⟨p, hp, e⟩ := hz1
      split at e
      · rename_i q
        cases e
        have := (h2 p hp).2
        try (unfold Gol; clear Gol)
        rw [this, q]
      · cases e
  try (unfold Gol; clear Gol)
  by_cases q : y ∈ fv
  · rw [if_pos (this.mpr q), if_pos q]
  · rw [if_neg (fun e => q (this.mp e)), if_neg q]
section
variable {prog : Program} {w : World} {h₀ : Heap} {hd : Bool} {k : Nat} {sc : Scope} {P : Params} {fd : FuncData}
theorem e_compF {elt iter : Expr} {x : Str} {px pos : Pos} {ifs : List Expr} {scope : Scope} {di : M AVal} {dt : M Bool} {de : M AVal} (fv : List Str) (n : Nat) (hi : SimE prog w h₀ true k sc iter di)
    (ht : SimI prog w h₀ true k (relS sc scope) ifs dt) (hel : SimE prog w h₀ true k (relS sc scope) elt de) (lt : KeepsLo dt) (le : KeepsLo de)
    (ok : compOk sc scope fv x = true := by kernel_rfl) (hs : ∀ env x, foldedSetIterable iter env x = pure x := by intro _ _; rfl) :
    SimE prog w h₀ true k sc (.ListComp elt [⟨.Name x px, iter, ifs, 0⟩] scope pos) (dCompF fv di x dt de n) := by
  have e : dCompF fv di x dt de n = dComp scope di x dt de n := by
    unfold dCompF dComp
    simp only [loC_eq ok]
  rw [e]
  unfold compOk at ok
  simp only [Bool.and_eq_true, List.all_eq_true, beq_iff_eq, bne_iff_ne, Bool.or_eq_true] at ok
  obtain ⟨⟨⟨h1, h2⟩, h3⟩, h4⟩ := ok
  exact e_comp n hi ht hel lt le (fun p hp hf => ((h2 p hp).1.2).resolve_left fun q => q hf) (fun y hy => (h2 y hy).1.1) h1 (fun y hy => (h2 y hy).2) h3 hs
/-! nothing but reads and heap -/
theorem kl_pure {α : Type} {v : α} : KeepsLo (pure v : M α) := fun σ u σ' h => by obtain ⟨rfl, rfl⟩ := pure_some h; rfl
theorem kl_bind {α β : Type} {d : M α} {f : α → M β} (h : KeepsLo d) (h' : ∀ a, KeepsLo (f a)) : KeepsLo (d >>= f) := fun σ u σ' e => by
  refine  bind_k e fun a σ₁ e1 e2 => ?_
  exact (h' a _ _ _ e2).trans (h _ _ _ e1)
theorem kl_getV {x : Str} : KeepsLo (getV x) := fun σ u σ' h => by obtain ⟨_, rfl⟩ := getV_some h; rfl
theorem kl_getO {i : Nat} : KeepsLo (getO i) := fun σ u σ' h => by obtain ⟨_, rfl⟩ := getO_some h; rfl
theorem kl_fail {α : Type} : KeepsLo (fail : M α) := fun σ u σ' h => (fail_some (σ := σ) h).elim
theorem kl_lift {α : Type} {o : Option α} : KeepsLo (lift o) := fun σ u σ' h => by obtain ⟨_, rfl⟩ := lift_some h; rfl
theorem kl_onH {D : List AObj → Option (AVal × List AObj)} : KeepsLo (onH D) := fun σ u σ' h => by obtain ⟨_, _, rfl⟩ := onH_some h; rfl
theorem kl_ints {f : Int → Int → Option Int} {a b : AVal} : KeepsLo (intsA f a b) := by
  unfold intsA
  split
  · split
    · exact kl_pure
    · exact kl_fail
  · exact kl_fail
theorem kl_cmpI {f : Int → Int → Bool} {a b : AVal} : KeepsLo (cmpI f a b) := by
  intro σ u σ' h
  unfold cmpI at h
  split at h
  · obtain ⟨_, rfl⟩ := pure_some h; rfl
  · exact (fail_some (σ := σ) h).elim
theorem kl_instD {C : Addr} {v : AVal} : KeepsLo (instD C v) := fun σ u σ' h => by obtain ⟨_, _, rfl⟩ := instD_some h; rfl
theorem kl_getSl {C : Addr} {j : Nat} {v : AVal} : KeepsLo (getSl C j v) := by
  unfold getSl
  refine kl_bind kl_instD fun p => kl_bind kl_lift fun u => ?_
  try clear Gol
  try (unfold Gol; clear Gol)
  split
  · exact kl_pure
  · exact kl_fail
theorem kl_subA {o i : AVal} : KeepsLo (subA o i) := by
  unfold subA
  split
  · refine kl_bind kl_getO fun ob => ?_
    try clear Gol
    try (unfold Gol; clear Gol)
    split
    · split
      · exact kl_lift
      · split
        · exact kl_lift
        · exact kl_fail
    · exact kl_lift
    · exact kl_lift
    · exact kl_fail
  · exact kl_fail
theorem kl_ite {α : Type} {d : M Bool} {a b : M α} (h : KeepsLo d) (ha : KeepsLo a) (hb : KeepsLo b) : KeepsLo (do if ← d then a else b) := kl_bind h fun c => by
  cases c
  · exact hb
  · exact ha

/-- an own method, with a starred argument: by way of the bound method -/
theorem call_methS {K : Frag} (G : Gnd K h₀) {o : Expr} {name : Str} {es : List Expr} {apos pos : Pos} {C f : Addr} {oc : Value} {od : Option Addr} {osl : Array (Option Value)} {do' : M AVal} {dargs : M (List AVal)} {D : List AVal → List AObj → Option (AVal × List AObj)}
    (ho : K.lookup f = some ⟨oc, od, .func fd, osl⟩) (hg : plainGet K C name = true) (hh : hasDictIn K C = true) (hf : findIn K (.ref C) name = some (some (.ref f))) (ht : isFn K (.ref f) = true) (hgf : specialIn K (.ref f) "__get__" = some (some (.builtin "function.__get__"))) (htk : takesIn K (.ref f) = some false) (hcp : copiedNames.contains name = false)
    (hfn : fnIn K f = true) (hO : SimE prog w h₀ true k sc o do') (hG : SimG prog w h₀ true k sc es dargs) (hF : ∀ vs, SimF prog w h₀ k (.ref f) vs (D vs))
    (hst : ∀ env, (backTo pos (starEach es env)).any (·.1) = true := by intro _; rfl)
    (hc : ∀ env, eval (.Call (.Attribute o name apos) es [] pos) env = (do
      let ov ← eval o env
      standAt apos.atName
      let x ← holding [ov] (do let a ← getAttr ov name true; pure (a, ([] : List Value)))
      callWith pos x.1 x.2 (backTo pos (starEach es env)) []) := by intro _; rfl) :
    SimE prog w h₀ true k sc (.Call (.Attribute o name apos) es [] pos) (do let v ← do'; methD C name v; let vs ← dargs; onH (D (v :: vs))) := by
  intro A env ρ₀ ha he s ρ σ e₀ rr v σ' hd' Q E kk
  refine (let Gol : Prop := _; (?_ : Gol))
  refine  bind_k hd' fun ov σ₁ e1 hd1 => ?_
  refine  bind_k hd1 fun _ σ₂ e2 hd2 => ?_
  refine  bind_k hd2 fun vs σ₃ e3 e4 => ?_
  obtain ⟨H', e5, rfl⟩ := onH_some e4
  refine  bind_k e2 fun p σ₄ e6 hd3 => ?_
  refine  bind_k hd3 fun kvs σ₅ e7 e8 => ?_
  obtain ⟨rfl, q1, rfl⟩ := instD_some e6
  obtain ⟨q2, rfl⟩ := dictD_some e7
  try (unfold Gol; clear Gol)
  rw [hc env]
  refine wpAny_bind (hO A env ρ₀ ha he s ρ σ e₀ rr _ _ e1 _ _ fun co h₁ tk₁ ρ₁ R₁ r₁ st₁ => ?_)
  try clear Gol
  refine (let Gol : Prop := _; (?_ : Gol))
  cases hq : lookS kvs name with
  | some _ => rw [hq] at e8; exact (fail_some (σ := σ₅) e8).elim
  | none =>
    rw [hq] at e8
    obtain ⟨_, rfl⟩ := pure_some e8
    refine  instAt_k r₁.hp q1 fun a b cs od' p1 p2 I p3 p4 => ?_
    refine  getK_k r₁.hp q2 fun b' p5 hy7 => ?_
    obtain ⟨es', n, p6, p7⟩ := hy7
    rw [p2] at p5; cases p5
    rw [p4] at p6; cases p6
    have R₁' := R₁.eq_ref p1
    subst R₁'
    have X := G.X.keeps r₁.hp.keep
    refine wpAny_bind (wpAny_standAt (wpAny_bind (wpAny_holding (wpAny_bind ?_))))
    try clear Gol
    refine get_bind (s := { s with heap := h₁, toks := tk₁ }) X I (plainGet_of hg).1 (findObj_fn hh hf hgf htk hcp (by show lookIn name (dictOf es' n) = _; rw [lookIn_dict, p7.miss hq])) (plainGet_of hg).2
      (wpAny_call (fn_get (s := { s with heap := h₁, toks := tk₁ + 1 }) X (beq_iff_eq.mp ht) (handed_on rfl (wpAny_pure ?_))))
    have hk : ∀ b o', h₁.get? b = some o' → (h₁.push (methodObj (.ref f) (.ref a))).get? b = some o' := fun b o' e => Heap.get?_push_of_some _ e
    have r2 := r₁.same hk
    have hfree : h₁.get? h₁.objs.size = none := free_of_ge (Nat.le_refl _)
    have n1 : h₁.objs.size ∉ ρ₁ := fun q => by obtain ⟨o', e'⟩ := r₁.hp.alive q; rw [hfree] at e'; cases e'
    have n2 : ¬ Fa env h₁.objs.size := fun q => by obtain ⟨o', e'⟩ := r₁.fr.alive q; rw [hfree] at e'; cases e'
    have hq0 : (h₁.push (methodObj (.ref f) (.ref a))).get? h₁.objs.size = some (methodObj (.ref f) (.ref a)) := Heap.get?_push_size _ rfl
    refine ks_call (P := MethP K h₁.objs.size f (.ref a)) (hst env) (keeps_M hfn) (hG A env ρ₁ pos _ ha he { s with heap := h₁.push (methodObj (.ref f) (.ref a)), toks := tk₁ + 1 } ρ₁ _ (.refl _) r2 vs σ₃ e3 _ _ fun ar h₂ tk₂ ρ₂ R₂ r₂ st₂ => ?_)
    try clear Gol
    refine (let Gol : Prop := _; (?_ : Gol))
    obtain ⟨cs', rfl, hcs⟩ := R₂
    have hq2 := st₂.exact hq0 n1 n2 (fun es ep q => by cases q)
    refine ⟨⟨hq2, G.X.keeps r₂.hp.keep⟩, wpAny_call (method_call (s := { s with heap := h₂, toks := tk₂ }) hq2 ?_)⟩
    refine hF _ A _ ρ₂ σ₃.H _ ha r₂.hp r₂.fo (.cons (R₁.ext st₂.ext) hcs) v H' e5 _ fun c h₃ tk₃ ρ₃ hv r₃ st₃ => ?_
    try clear Gol
    obtain ⟨r₃', st₃'⟩ := r₂.called r₃ st₃
    exact kk c h₃ tk₃ ρ₃ hv r₃' (r₃'.trans (r₂.trans (r2.trans st₁ (.same hk)) st₂) st₃')

/-! TopologicalSorter -/
theorem set146 (G : Gnd (KK P) h₀) {name : Str} (ht : takerIn (KK P) 146 name = some none := by kernel_rfl) : SetA prog w h₀ name (putD 146 name) := set_D G (by kernel_rfl) (by kernel_rfl) ht (by kernel_rfl)
theorem get146 (G : Gnd (KK P) h₀) {name : Str} (hg : plainGet (KK P) 146 name = true := by kernel_rfl) (ha : findIn (KK P) (.ref 146) name = some none := by kernel_rfl) : GetA prog w h₀ name (getD 146 name) := get_D G hg (by kernel_rfl) ha (by rfl)
noncomputable abbrev at' (D : AVal → M AVal) (o : M AVal) : M AVal := do let v ← o; D v
noncomputable abbrev setAt (D : AVal → AVal → M Unit) (o v : M AVal) : M AFlow := do let u ← v; let x ← o; D x u; pure .next
noncomputable abbrev augAt (D : AVal → M AVal) (D' : AVal → AVal → M Unit) (f : AVal → AVal → M AVal) (o v : M AVal) : M AFlow := do let x ← o; let a ← D x; let b ← v; let z ← f a b; D' x z; pure .next
noncomputable abbrev callM (C : Addr) (name : Str) (o : M AVal) (ds : M (List AVal)) (D : List AVal → List AObj → Option (AVal × List AObj)) : M AVal := do let v ← o; methD C name v; let vs ← ds; onH (D (v :: vs))
noncomputable abbrev callF (D : List AVal → List AObj → Option (AVal × List AObj)) (ds : M (List AVal)) : M AVal := do let vs ← ds; onH (D vs)
noncomputable abbrev astar (d : M AVal) (ds : M (List AVal)) : M (List AVal) := do let v ← d; let us ← starD v; let vs ← ds; pure (us ++ vs)
noncomputable abbrev named (x : Str) (d : M AVal) : M AVal := do let v ← d; setV x v; pure v
noncomputable abbrev isNot (a b : AVal) : M Bool := do let c ← isNoneA a b; pure (!c)
noncomputable abbrev nil' : M AFlow := pure .next
noncomputable abbrev lst (ds : M (List AVal)) : M AVal := do let vs ← ds; if vs.length ≤ 1000 then newO (.list vs) else fail

theorem call_m (G : Gnd (KK P) h₀) {f : Addr} {o : Expr} {name : Str} {es : List Expr} {apos pos : Pos} {pl : Env → Sem Bool} {do' : M AVal} {dargs : M (List AVal)} {D : List AVal → List AObj → Option (AVal × List AObj)}
    (hO : SimE prog w h₀ true k sc o do') (hG : SimG prog w h₀ true k sc es dargs) (hF : ∀ vs, SimF prog w h₀ k (.ref f) vs (D vs))
    (ho : isFnB P f = true := by kernel_rfl) (hg : plainGet (KK P) 146 name = true := by kernel_rfl) (hf : findIn (KK P) (.ref 146) name = some (some (.ref f)) := by kernel_rfl) (ht : isFn (KK P) (.ref f) = true := by kernel_rfl)
    (hc : ∀ env, eval (.Call (.Attribute o name apos) es [] pos) env = (do
      let ov ← eval o env
      standAt apos.atName
      let (f, first) ← holding [ov] (getMethod ov name (pl env))
      callWith pos f first (backTo pos (starEach es env)) []) := by intro _; rfl) :
    SimE prog w h₀ true k sc (.Call (.Attribute o name apos) es [] pos) (callM 146 name do' dargs D) := by
  obtain ⟨⟨oc, od, osl, ho⟩, _⟩ := fnAt_look ho
  exact call_meth G ho hg hf ht hO hG hF hc

theorem call_mS (G : Gnd (KK P) h₀) {f : Addr} {o : Expr} {name : Str} {es : List Expr} {apos pos : Pos} {do' : M AVal} {dargs : M (List AVal)} {D : List AVal → List AObj → Option (AVal × List AObj)}
    (hO : SimE prog w h₀ true k sc o do') (hG : SimG prog w h₀ true k sc es dargs) (hF : ∀ vs, SimF prog w h₀ k (.ref f) vs (D vs))
    (ho : isFnB P f = true := by kernel_rfl) (hg : plainGet (KK P) 146 name = true := by kernel_rfl) (hf : findIn (KK P) (.ref 146) name = some (some (.ref f)) := by kernel_rfl) (ht : isFn (KK P) (.ref f) = true := by kernel_rfl)
    (hgf : specialIn (KK P) (.ref f) "__get__" = some (some (.builtin "function.__get__")) := by kernel_rfl) (htk : takesIn (KK P) (.ref f) = some false := by kernel_rfl) (hcp : copiedNames.contains name = false := by decide +kernel) (hfn : fnIn (KK P) f = true := by kernel_rfl)
    (hst : ∀ env, (backTo pos (starEach es env)).any (·.1) = true := by intro _; rfl)
    (hc : ∀ env, eval (.Call (.Attribute o name apos) es [] pos) env = (do
      let ov ← eval o env
      standAt apos.atName
      let x ← holding [ov] (do let a ← getAttr ov name true; pure (a, ([] : List Value)))
      callWith pos x.1 x.2 (backTo pos (starEach es env)) []) := by intro _; rfl) :
    SimE prog w h₀ true k sc (.Call (.Attribute o name apos) es [] pos) (callM 146 name do' dargs D) := by
  obtain ⟨⟨oc, od, osl, ho⟩, _⟩ := fnAt_look ho
  exact call_methS G ho hg (by kernel_rfl) hf ht hgf htk hcp hfn hO hG hF hst hc
noncomputable def fNode (vs : List AVal) : List AObj → Option (AVal × List AObj) := runF (bd2 "self" "node" vs) dNode
noncomputable def fNew (vs : List AVal) : List AObj → Option (AVal × List AObj) := newD 49 fNode vs
theorem sim_new (G : Gnd (KK P) h₀) (vs : List AVal) : SimF prog w h₀ (k + 2) (.ref 49) vs (fNew vs) := new_cls G (by kernel_rfl) (by kernel_rfl) (by kernel_rfl) fun vs => sim_node G vs

/-! _get_nodeinfo -/
noncomputable def dGni : M AFlow :=
  seq (ifs (cmp isNoneA (named "result" (meth "dict" (at' (getD 146 "_node2info") (getV "self")) getD1 (ac (getV "node") a0))) (pure .none))
    (do let v ← callF fNew (ac (getV "node") a0); let o ← at' (getD 146 "_node2info") (getV "self"); let i ← getV "node"; setA o i v; setV "result" v; pure .next) nil')
    (rets (getV "result"))
noncomputable def fGni (vs : List AVal) : List AObj → Option (AVal × List AObj) := runF (bd2 "self" "node" vs) dGni
theorem sim_gni (G : Gnd (KK P) h₀) (vs : List AVal) : SimF prog w h₀ (k + 3) (.ref 89) vs (fGni vs) :=
  fn_ok G (by kernel_rfl) (bs2 fun c d => by kernel_rfl) (kind2 (.inl (by kernel_rfl)) (.inl (by kernel_rfl)))
    (b_cons (s_if (cmpT (e_named (m_bi (e_attr nl (get146 G)) (g_plain (a_cons nl a_nil)) bi_get PySem.F.plainAttrs_dict PySem.F.slot_dict_get PySem.F.type_dict_get) (.inl (by kernel_rfl))) c_none cmp_isNone)
      (b_one (s_assign2 (call_new G (by kernel_rfl) (ng G) (g_plain (a_cons nl a_nil)) fun vs => sim_new G vs) (e_attr nl (get146 G)) nl (.inl (by kernel_rfl)))) b_nil) (b_one (s_ret nl)))

/-! add -/
noncomputable def dAdd : M AFlow :=
  seq (ifs (cmp isNot (at' (getD 146 "_ready_nodes") (getV "self")) (pure .none)) fail nil')
    (seq (asg "nodeinfo" (callM 146 "_get_nodeinfo" (getV "self") (ac (getV "node") a0) fGni))
      (seq (augAt (getSl 49 1) (setSlD 49 1) (intsA fAdd) (getV "nodeinfo") (fnc lenA (ac (getV "predecessors") a0)))
        (forL "pred" 100 (getV "predecessors")
          (seq (asg "pred_info" (callM 146 "_get_nodeinfo" (getV "self") (ac (getV "pred") a0) fGni))
            (exprs (meth "list" (at' (getSl 49 2) (getV "pred_info")) appendD (ac (getV "node") a0)))))))
noncomputable def fAddN (vs : List AVal) : List AObj → Option (AVal × List AObj) := runF (bdS2 "self" "node" "predecessors" vs) dAdd
theorem sim_add (G : Gnd (KK P) h₀) (vs : List AVal) : SimF prog w h₀ (k + 4) (.ref 96) vs (fAddN vs) :=
  fn_ok G (by kernel_rfl) (bsS2 fun c d rest => by cases rest <;> kernel_rfl) (kindS2 (.inl (by kernel_rfl)) (.inl (by kernel_rfl)) (.inl (by kernel_rfl)))
    (b_cons (s_ifF (cmpT (e_attr nl (get146 G)) c_none cmp_isNotNone) b_nil)
      (b_cons (sa (call_m G (f := 89) nl (g_plain (a_cons nl a_nil)) fun vs => sim_gni G vs))
        (b_cons (s_augAttr nl (get49 G (p := 51)) (call_bi (nb G) (g_plain (a_cons nl a_nil)) bi_len) in_add (set49 G (p := 51)))
          (b_one (sf 100 nl (b_cons (sa (call_m G (f := 89) nl (g_plain (a_cons nl a_nil)) fun vs => sim_gni G vs))
            (b_one (se (m_bi (e_attr nl (get49 G (p := 52))) (g_plain (a_cons nl a_nil)) bi_append PySem.F.plainAttrs_list PySem.F.slot_list_append PySem.F.type_list_append)))))))))

/-! TopologicalSorter.__init__ -/
noncomputable def dTs : M AFlow :=
  seq (setAt (putD 146 "_node2info") (getV "self") (newO (.dict 0 [])))
    (seq (setAt (putD 146 "_ready_nodes") (getV "self") (pure .none))
      (seq (setAt (putD 146 "_npassedout") (getV "self") (I 0))
        (seq (setAt (putD 146 "_nfinished") (getV "self") (I 0))
          (ifs (cmp isNot (getV "graph") (pure .none))
            (do let v ← meth "dict" (getV "graph") itemsD a0
                let p ← asItems v
                dItems p.1 p.2.1 p.2.2 "node" "predecessors" (exprs (callM 146 "add" (getV "self") (ac (getV "node") (astar (getV "predecessors") a0)) fAddN)) 100 0) nil'))))
noncomputable def fTs (vs : List AVal) : List AObj → Option (AVal × List AObj) := runF (bd2 "self" "graph" vs) dTs
theorem sim_ts (G : Gnd (KK P) h₀) (vs : List AVal) : SimF prog w h₀ (k + 5) (.ref 82) vs (fTs vs) :=
  fn_ok G (by kernel_rfl) (bsP2 G fun c d S => by kernel_rfl) (kind2 (.inl (by kernel_rfl)) (.inl (by kernel_rfl)))
    (b_cons (s_setAttr e_dict0 nl (set146 G)) (b_cons (s_setAttr c_none nl (set146 G)) (b_cons (s_setAttr c_int nl (set146 G)) (b_cons (s_setAttr c_int nl (set146 G))
      (b_one (s_if (cmpT nl c_none cmp_isNotNone)
        (b_one (s_items 100 (m_bi nl g_nil bi_items PySem.F.plainAttrs_dict PySem.F.slot_dict_items PySem.F.type_dict_items) (.inl (by kernel_rfl)) (.inl (by kernel_rfl))
          (b_one (se (call_mS G (f := 96) nl (g_plain (a_cons nl (a_star nl a_nil))) fun vs => sim_add G vs))))) b_nil))))))
end
end Mine
end

section
open PySem PySem.W PyProof.Rows
set_option autoImplicit false
set_option linter.unusedVariables false
set_option maxRecDepth 100000
namespace Mine
section
variable {prog : Program} {w : World} {h₀ : Heap} {hd : Bool} {k : Nat} {sc : Scope} {P : Params} {fd : FuncData}

noncomputable def gInt (P : Params) (x : Str) (i : Int) : Bool := match nsIn (KK P) mainGlobals x with
  | some (some (.int j _)) => j == i
  | _ => false
theorem ngI (G : Gnd (KK P) h₀) {x : Str} {pos : Pos} {i : Int} (hx : sc.names.lookup x = some .globalImplicit := by kernel_rfl) (e : gInt P x i = true := by kernel_rfl) (hn : (x == ("__debug__" : Str)) = false := by decide) :
    SimE prog w h₀ hd k sc (.Name x pos) (pure (.int i)) := by
  unfold gInt at e
  split at e
  · rename_i j t q
    rw [beq_iff_eq.mp e] at q
    exact ngi G hx q hn
  · cases e
/-! _find_cycle -/
noncomputable def dFcH : M AFlow :=
  seq (do let o ← getV "node2stacki"; let i ← meth "list" (getV "stack") popD a0; delA o i; pure .next)
    (exprs (meth "list" (getV "itstack") popD a0))
noncomputable def dFcW : M AFlow := dTryNext (bin subA (getV "itstack") (neg (I 1))) "node" dFcH
noncomputable def dFcIn : M AFlow :=
  seq (ifs (cmp inA (getV "node") (getV "seen"))
      (ifs (cmp inA (getV "node") (getV "node2stacki")) fail nil')
      (seq (exprs (meth "set" (getV "seen") addD (ac (getV "node") a0)))
        (seq (exprs (meth "list" (getV "itstack") appendD (ac (at' nextA (fnc iterD (ac (at' (getSl 49 2) (bin subA (getV "n2i") (getV "node"))) a0))) a0)))
          (seq (setI (getV "node2stacki") (getV "node") (fnc lenA (ac (getV "stack") a0)))
            (exprs (meth "list" (getV "stack") appendD (ac (getV "node") a0)))))))
    (dWhile (do let v ← getV "stack"; truthA v) dFcW (pure .brk) 1000)
noncomputable def dFcOut : M AFlow := seq (ifs (cmp inA (getV "node") (getV "seen")) (pure .cont) nil') (dWhile (do let v ← (pure (.bool true) : M AVal); truthA v) dFcIn nil' 1000)
noncomputable def dFc : M AFlow :=
  seq (asg "n2i" (at' (getD 146 "_node2info") (getV "self")))
    (seq (asg "stack" (lst a0)) (seq (asg "itstack" (lst a0)) (seq (asg "seen" (fnc setD a0)) (seq (asg "node2stacki" (newO (.dict 0 [])))
      (seq (forL "node" 100 (getV "n2i") dFcOut) (rets (pure .none)))))))
noncomputable def fFc (vs : List AVal) : List AObj → Option (AVal × List AObj) := runF (bd1 "self" vs) dFc
theorem sim_fc (G : Gnd (KK P) h₀) (vs : List AVal) : SimF prog w h₀ (k + 1) (.ref 136) vs (fFc vs) :=
  fn_ok G (by kernel_rfl) (bs1 fun c => by kernel_rfl) (kind1 (.inl (by kernel_rfl)))
    (b_cons (sa (e_attr nl (get146 G))) (b_cons (sa (e_list a_nil)) (b_cons (sa (e_list a_nil)) (b_cons (sa (call_ty (nb G) g_nil ty_set)) (b_cons (sa e_dict0)
      (b_cons (sf 100 nl (b_cons (s_if (cmpT nl nl cmp_in) (b_one s_cont) b_nil)
        (b_one (s_while 1000 (t_val c_bool)
          (b_cons (s_if (cmpT nl nl cmp_in) (b_one (s_ifF (cmpT nl nl cmp_in) b_nil))
              (b_cons (se (m_bi nl (g_plain (a_cons nl a_nil)) bi_setAdd PySem.F.plainAttrs_set PySem.F.slot_set_add PySem.F.type_set_add))
                (b_cons (se (m_bi nl (g_plain (a_cons (e_attr (call_bi (nb G) (g_plain (a_cons (e_attr (e_sub nl nl) (get49 G (p := 52))) a_nil)) bi_iter) get_next) a_nil)) bi_append PySem.F.plainAttrs_list PySem.F.slot_list_append PySem.F.type_list_append))
                  (b_cons (s_setItem (call_bi (nb G) (g_plain (a_cons nl a_nil)) bi_len) nl nl)
                    (b_one (se (m_bi nl (g_plain (a_cons nl a_nil)) bi_append PySem.F.plainAttrs_list PySem.F.slot_list_append PySem.F.type_list_append)))))))
            (b_one (s_while 1000 (t_val nl) (b_one (s_tryNext (e_sub nl (e_neg c_int))
              (b_cons (s_del nl (m_bi nl g_nil bi_pop PySem.F.plainAttrs_list PySem.F.slot_list_pop PySem.F.type_list_pop)) (b_one (se (m_bi nl g_nil bi_pop PySem.F.plainAttrs_list PySem.F.slot_list_pop PySem.F.type_list_pop))))
              (nb G) (.inl (by kernel_rfl)))) (b_one s_brk)))) b_nil)))) (b_one (s_ret c_none))))))))

/-! prepare -/
noncomputable def dPrep : M AFlow :=
  seq (ifs (cmp isNot (at' (getD 146 "_ready_nodes") (getV "self")) (pure .none)) fail nil')
    (seq (setAt (putD 146 "_ready_nodes") (getV "self") (dCompF [] (meth "dict" (at' (getD 146 "_node2info") (getV "self")) valuesD a0) "i" (cmp eqI (at' (getSl 49 1) (getV "i")) (I 0)) (at' (getSl 49 0) (getV "i")) 100))
      (seq (asg "cycle" (callM 146 "_find_cycle" (getV "self") a0 fFc)) (ifs (do let v ← getV "cycle"; truthA v) fail nil')))
noncomputable def fPrep (vs : List AVal) : List AObj → Option (AVal × List AObj) := runF (bd1 "self" vs) dPrep
theorem sim_prep (G : Gnd (KK P) h₀) (vs : List AVal) : SimF prog w h₀ (k + 2) (.ref 101) vs (fPrep vs) :=
  fn_ok G (by kernel_rfl) (bs1 fun c => by kernel_rfl) (kind1 (.inl (by kernel_rfl)))
    (b_cons (s_ifF (cmpT (e_attr nl (get146 G)) c_none cmp_isNotNone) b_nil)
      (b_cons (s_setAttr (e_compF [] 100 (m_bi (e_attr nl (get146 G)) g_nil bi_values PySem.F.plainAttrs_dict PySem.F.slot_dict_values PySem.F.type_dict_values)
          (i_one (cmpT (e_attr nl (get49 G (p := 51))) c_int cmp_eq)) (e_attr nl (get49 G (p := 50)))
          (kl_bind (kl_bind kl_getV fun _ => kl_getSl) fun _ => kl_bind kl_pure fun _ => kl_cmpI) (kl_bind kl_getV fun _ => kl_getSl)) nl (set146 G))
        (b_cons (sa (call_m G (f := 136) nl g_nil fun vs => sim_fc G vs)) (b_one (s_ifF (t_val nl) b_nil)))))

/-! get_ready -/
noncomputable def dReady : M AFlow :=
  seq (ifs (cmp isNoneA (at' (getD 146 "_ready_nodes") (getV "self")) (pure .none)) fail nil')
    (seq (asg "result" (fnc tupleD (ac (at' (getD 146 "_ready_nodes") (getV "self")) a0)))
      (seq (asg "n2i" (at' (getD 146 "_node2info") (getV "self")))
        (seq (forL "node" 100 (getV "result") (setAt (setSlD 49 1) (bin subA (getV "n2i") (getV "node")) (I (-1))))
          (seq (exprs (meth "list" (at' (getD 146 "_ready_nodes") (getV "self")) clearD a0))
            (seq (augAt (getD 146 "_npassedout") (putD 146 "_npassedout") (intsA fAdd) (getV "self") (fnc lenA (ac (getV "result") a0)))
              (rets (getV "result")))))))
noncomputable def fReady (vs : List AVal) : List AObj → Option (AVal × List AObj) := runF (bd1 "self" vs) dReady
theorem sim_ready (G : Gnd (KK P) h₀) (vs : List AVal) : SimF prog w h₀ (k + 1) (.ref 108) vs (fReady vs) :=
  fn_ok G (by kernel_rfl) (bs1 fun c => by kernel_rfl) (kind1 (.inl (by kernel_rfl)))
    (b_cons (s_ifF (cmpT (e_attr nl (get146 G)) c_none cmp_isNone) b_nil)
      (b_cons (sa (call_ty (nb G) (g_plain (a_cons (e_attr nl (get146 G)) a_nil)) ty_tuple))
        (b_cons (sa (e_attr nl (get146 G)))
          (b_cons (sf 100 nl (b_one (s_setAttr (ngI G) (e_sub nl nl) (set49 G (p := 51)))))
            (b_cons (se (m_bi (e_attr nl (get146 G)) g_nil bi_clear PySem.F.plainAttrs_list PySem.F.slot_list_clear PySem.F.type_list_clear))
              (b_cons (s_augAttr nl (get146 G) (call_bi (nb G) (g_plain (a_cons nl a_nil)) bi_len) in_add (set146 G)) (b_one (s_ret nl))))))))

/-! is_active -/
noncomputable abbrev cmpB (f : AVal → AVal → M Bool) (l r : M AVal) : M AVal := do let a ← l; let b ← r; let c ← f a b; pure (.bool c)
noncomputable def dAct : M AFlow :=
  seq (ifs (cmp isNoneA (at' (getD 146 "_ready_nodes") (getV "self")) (pure .none)) fail nil')
    (rets (do let v ← cmpB (cmpI fun a b => decide (a < b)) (at' (getD 146 "_nfinished") (getV "self")) (at' (getD 146 "_npassedout") (getV "self")); if ← truthA v then pure v else fnc boolD (ac (at' (getD 146 "_ready_nodes") (getV "self")) a0)))
noncomputable def fAct (vs : List AVal) : List AObj → Option (AVal × List AObj) := runF (bd1 "self" vs) dAct
theorem sim_act (G : Gnd (KK P) h₀) (vs : List AVal) : SimF prog w h₀ (k + 1) (.ref 115) vs (fAct vs) :=
  fn_ok G (by kernel_rfl) (bs1 fun c => by kernel_rfl) (kind1 (.inl (by kernel_rfl)))
    (b_cons (s_ifF (cmpT (e_attr nl (get146 G)) c_none cmp_isNone) b_nil)
      (b_one (s_ret (e_or2 (cmpE (e_attr nl (get146 G)) (e_attr nl (get146 G)) cmp_lt) (call_ty (nb G) (g_plain (a_cons (e_attr nl (get146 G)) a_nil)) ty_bool)))))

/-! done -/
noncomputable def dDoneS : M AFlow :=
  seq (asg "successor_info" (bin subA (getV "n2i") (getV "successor")))
    (seq (augAt (getSl 49 1) (setSlD 49 1) (intsA fSub) (getV "successor_info") (I 1))
      (ifs (cmp eqI (at' (getSl 49 1) (getV "successor_info")) (I 0)) (exprs (meth "list" (at' (getD 146 "_ready_nodes") (getV "self")) appendD (ac (getV "successor") a0))) nil'))
noncomputable def dDoneB : M AFlow :=
  seq (ifs (cmp isNoneA (named "nodeinfo" (meth "dict" (getV "n2i") getD1 (ac (getV "node") a0))) (pure .none)) fail nil')
    (seq (asg "stat" (at' (getSl 49 1) (getV "nodeinfo")))
      (seq (ifs (cmp (cmpI fun a b => a != b) (getV "stat") (I (-1))) fail nil')
        (seq (setAt (setSlD 49 1) (getV "nodeinfo") (I (-2)))
          (seq (forL "successor" 100 (at' (getSl 49 2) (getV "nodeinfo")) dDoneS)
            (augAt (getD 146 "_nfinished") (putD 146 "_nfinished") (intsA fAdd) (getV "self") (I 1))))))
noncomputable def dDone : M AFlow :=
  seq (ifs (cmp isNoneA (at' (getD 146 "_ready_nodes") (getV "self")) (pure .none)) fail nil')
    (seq (asg "n2i" (at' (getD 146 "_node2info") (getV "self"))) (forL "node" 100 (getV "nodes") dDoneB))
noncomputable def fDone (vs : List AVal) : List AObj → Option (AVal × List AObj) := runF (bdS1 "self" "nodes" vs) dDone
theorem sim_done (G : Gnd (KK P) h₀) (vs : List AVal) : SimF prog w h₀ (k + 1) (.ref 129) vs (fDone vs) :=
  fn_ok G (by kernel_rfl) (bsS1 fun c rest => by cases rest <;> kernel_rfl) (kindS1 (.inl (by kernel_rfl)) (.inl (by kernel_rfl)))
    (b_cons (s_ifF (cmpT (e_attr nl (get146 G)) c_none cmp_isNone) b_nil)
      (b_cons (sa (e_attr nl (get146 G)))
        (b_one (sf 100 nl
          (b_cons (s_ifF (cmpT (e_named (m_bi nl (g_plain (a_cons nl a_nil)) bi_get PySem.F.plainAttrs_dict PySem.F.slot_dict_get PySem.F.type_dict_get) (.inl (by kernel_rfl))) c_none cmp_isNone) b_nil)
            (b_cons (sa (e_attr nl (get49 G (p := 51))))
              (b_cons (s_ifF (cmpT nl (ngI G) cmp_ne) b_nil)
                (b_cons (s_setAttr (ngI G) nl (set49 G (p := 51)))
                  (b_cons (sf 100 (e_attr nl (get49 G (p := 52)))
                    (b_cons (sa (e_sub nl nl)) (b_cons (s_augAttr nl (get49 G (p := 51)) c_int in_sub (set49 G (p := 51)))
                      (b_one (s_if (cmpT (e_attr nl (get49 G (p := 51))) c_int cmp_eq)
                        (b_one (se (m_bi (e_attr nl (get146 G)) (g_plain (a_cons nl a_nil)) bi_append PySem.F.plainAttrs_list PySem.F.slot_list_append PySem.F.type_list_append))) b_nil)))))
                    (b_one (s_augAttr nl (get146 G) c_int in_add (set146 G))))))))))))
end
end Mine
end

section
open PySem PySem.W PyProof.Rows
set_option autoImplicit false
set_option linter.unusedVariables false
set_option maxRecDepth 100000
namespace Mine
noncomputable abbrev addL (a b : AVal) : M AVal := do
    let (_, xs) ← asList a
    let (_, ys) ← asList b
    if xs.length + ys.length ≤ 1000 then newO (.list (xs ++ ys)) else fail
section
variable {prog : Program} {w : World} {h₀ : Heap} {hd : Bool} {k : Nat} {sc : Scope} {P : Params} {fd : FuncData}
theorem call_f (G : Gnd (KK P) h₀) {func : Expr} {es : List Expr} {pos : Pos} {f : Addr} {dargs : M (List AVal)} {D : List AVal → List AObj → Option (AVal × List AObj)}
    (hf : SimE prog w h₀ true k sc func (pure (.stat (.ref f)))) (hg : SimG prog w h₀ true k sc es dargs) (hF : ∀ vs, SimF prog w h₀ k (.ref f) vs (D vs)) (ho : isFnB P f = true := by kernel_rfl)
    (hc : ∀ env, eval (.Call func es [] pos) env = (do callWith pos (← eval func env) [] (backTo pos (starEach es env)) (backToKw pos (keywordEach [] env))) := by intro _; rfl) :
    SimE prog w h₀ true k sc (.Call func es [] pos) (callF D dargs) := by
  obtain ⟨⟨oc, od, osl, ho⟩, _⟩ := fnAt_look ho
  exact call_fn G ho hf hg hF hc
noncomputable def fAndF (vs : List AVal) : List AObj → Option (AVal × List AObj) := runF (bd2 "a" "b" vs) dAnd
noncomputable def fMulF (vs : List AVal) : List AObj → Option (AVal × List AObj) := runF (bd2 "a" "b" vs) dMul
noncomputable def fSubF (vs : List AVal) : List AObj → Option (AVal × List AObj) := runF (bd2 "a" "b" vs) dSub
noncomputable def fGetF (vs : List AVal) : List AObj → Option (AVal × List AObj) := runF (bd2 "a" "b" vs) dGet
noncomputable def fWedF (vs : List AVal) : List AObj → Option (AVal × List AObj) := runF (bd2 "forms" "row" vs) dWedge
noncomputable def fRed (f : Addr) (D : List AVal → List AObj → Option (AVal × List AObj)) (vs : List AVal) : List AObj → Option (AVal × List AObj) := runF (bdR "function" "sequence" "initial" (.stat (.ref 22)) vs) (dReduce f D)
theorem kl_a0 : KeepsLo a0 := kl_pure
theorem kl_ac {d : M AVal} {ds : M (List AVal)} (h : KeepsLo d) (h' : KeepsLo ds) : KeepsLo (ac d ds) := kl_bind h fun _ => kl_bind h' fun _ => kl_pure
theorem kl_callF {D : List AVal → List AObj → Option (AVal × List AObj)} {ds : M (List AVal)} (h : KeepsLo ds) : KeepsLo (callF D ds) := kl_bind h fun _ => kl_onH
theorem kl_bin {f : AVal → AVal → M AVal} {a b : M AVal} (ha : KeepsLo a) (hb : KeepsLo b) (hf : ∀ x y, KeepsLo (f x y)) : KeepsLo (bin f a b) := kl_bind ha fun _ => kl_bind hb fun _ => hf _ _
theorem kl_cmp {f : AVal → AVal → M Bool} {a b : M AVal} (ha : KeepsLo a) (hb : KeepsLo b) (hf : ∀ x y, KeepsLo (f x y)) : KeepsLo (cmp f a b) := kl_bind ha fun _ => kl_bind hb fun _ => hf _ _

/-! _law_family -/
noncomputable def dFamP : M AFlow := ifs (cmp notInA (getV "part") (getV "more")) (exprs (meth "list" (getV "more") appendD (ac (getV "part") a0))) nil'
noncomputable def dFamX : M AFlow :=
  seq (asg "more" (fnc listD (ac (getV "family") a0)))
    (seq (forL "part" 100 (bin addL (lst (ac (getV "x") a0)) (dCompF ["x"] (getV "family") "old" (pure true) (callF fAndF (ac (getV "x") (ac (getV "old") a0))) 100)) dFamP)
      (ifs (cmp (cmpI fun a b => decide (a ≤ b)) (fnc lenA (ac (getV "more") a0)) (I 6)) (asg "family" (getV "more")) nil'))
noncomputable def dFam : M AFlow := seq (asg "family" (lst a0)) (seq (forL "x" 100 (getV "numbers") dFamX) (rets (getV "family")))
noncomputable def fFam (vs : List AVal) : List AObj → Option (AVal × List AObj) := runF (bd1 "numbers" vs) dFam
theorem sim_fam (G : Gnd (KK P) h₀) (vs : List AVal) : SimF prog w h₀ (k + 2) (.ref 183) vs (fFam vs) :=
  fn_ok G (by kernel_rfl) (bs1 fun c => by kernel_rfl) (kind1 (.inl (by kernel_rfl)))
    (b_cons (sa (e_list a_nil)) (b_cons (sfc 100 nl
      (b_cons (sa (call_ty (nb G) (g_plain (a_cons nl a_nil)) ty_list))
        (b_cons (sf 100 (binOp (e_list (a_cons nc a_nil)) (e_compF ["x"] 100 nl i_nil (call_f G (ng G) (g_plain (a_cons nc (a_cons nl a_nil))) fun vs => sim_and G vs) kl_pure (kl_callF (kl_ac kl_getV (kl_ac kl_getV kl_a0)))) op_addL)
            (b_one (s_if (cmpT nl nl cmp_notIn) (b_one (se (m_bi nl (g_plain (a_cons nl a_nil)) bi_append PySem.F.plainAttrs_list PySem.F.slot_list_append PySem.F.type_list_append))) b_nil)))
          (b_one (s_if (cmpT (call_bi (nb G) (g_plain (a_cons nl a_nil)) bi_len) c_int cmp_le) (b_one (sa nl)) b_nil)))))
      (b_one (s_ret nl))))

/-! law -/
noncomputable def dNums (a : Addr) (ns : List Int) : M AVal := bin addL (dCompF [] (do let v ← getV "script"; sliceA a ns 8 v) "x" (pure true) (bin (intsA fMod) (getV "x") (I 256)) 100) (lst (ac (I 6) (ac (I 3) (ac (I 12) a0))))
noncomputable def dDrawn (a : Addr) (ns : List Int) : M AVal := bin addL (dCompF [] (do let v ← getV "script"; sliceA a ns 24 v) "x" (pure true) (bin (intsA fSub) (bin (intsA fMod) (getV "x") (I 2001)) (I 1000)) 100)
  (lst (ac (I 3) (ac (I 1) (ac (I 4) (ac (I 1) (ac (I 5) (ac (I 9) (ac (I 2) a0))))))))
noncomputable def dBelow : M AFlow := setI (getV "below") (getV "x") (dCompF ["x"] (getV "family") "y"
  (do if ← cmp (cmpI fun a b => a != b) (getV "y") (getV "x") then cmp eqI (callF fAndF (ac (getV "x") (ac (getV "y") a0))) (getV "y") else pure false) (getV "y") 100)
noncomputable def fTsNew (vs : List AVal) : List AObj → Option (AVal × List AObj) := newD 146 fTs vs
theorem sim_tsNew (G : Gnd (KK P) h₀) (vs : List AVal) : SimF prog w h₀ (k + 6) (.ref 146) vs (fTsNew vs) := new_cls G (by kernel_rfl) (by kernel_rfl) (by kernel_rfl) fun vs => sim_ts G vs
noncomputable def dTurn : M AFlow :=
  seq (asg "ready" (callM 146 "get_ready" (getV "sorter") a0 fReady))
    (seq (exprs (meth "list" (getV "order") extendD (ac (getV "ready") a0)))
      (exprs (callM 146 "done" (getV "sorter") (do let v ← getV "ready"; starD v) fDone)))
noncomputable def dWorth : M AFlow := setI (getV "worth") (bin subA (getV "family") (getV "k")) (bin subA (getV "drawn") (bin (intsA fMod) (bin (intsA fAdd) (bin (intsA fMul) (getV "i") (getV "size")) (getV "k")) (fnc lenA (ac (getV "drawn") a0))))
noncomputable def dShare : M AFlow := setI (getV "share") (getV "x") (callF (fRed 171 fSubF) (ac (pure (.stat (.ref 171))) (ac (dCompF ["share"] (bin subA (getV "below") (getV "x")) "y" (pure true) (bin subA (getV "share") (getV "y")) 100) (ac (bin subA (getV "worth") (getV "x")) a0))))
noncomputable def dRow : M AFlow :=
  seq (asg "worth" (newO (.dict 0 [])))
    (seq (forL "k" 100 (fnc rangeD (ac (getV "size") a0)) dWorth)
      (seq (exprs (meth "list" (getV "rows") appendD (ac (dCompF ["family", "i", "worth"] (getV "family") "y" (pure true) (callF fGetF (ac (getV "worth") (ac (callF fAndF (ac (bin subA (getV "family") (getV "i")) (ac (getV "y") a0))) a0))) 100) a0)))
        (seq (asg "share" (newO (.dict 0 [])))
          (seq (forL "x" 100 (getV "order") dShare)
            (exprs (meth "list" (getV "shares") appendD (ac (bin subA (getV "share") (bin subA (getV "family") (getV "i"))) a0)))))))
noncomputable def dEnd : M AFlow := rets (cmpB eqI
  (bin subA (callF (fRed 190 fWedF) (ac (pure (.stat (.ref 190))) (ac (getV "rows") (ac (do let d ← newO (.dict 0 []); let k ← I 0; let v ← I 1; setA1 d k v; pure d) a0)))) (bin (intsA fSub) (bin (intsA fPow) (I 2) (getV "size")) (I 1)))
  (callF (fRed 164 fMulF) (ac (pure (.stat (.ref 164))) (ac (getV "shares") a0))))
noncomputable def dLaw (a : Addr) (ns : List Int) : M AFlow :=
  seq (asg "family" (callF fFam (ac (dNums a ns) a0)))
    (seq (asg "size" (fnc lenA (ac (getV "family") a0)))
      (seq (asg "drawn" (dDrawn a ns))
        (seq (asg "below" (newO (.dict 0 [])))
          (seq (forL "x" 100 (getV "family") dBelow)
            (seq (asg "sorter" (callF fTsNew (ac (getV "below") a0)))
              (seq (exprs (callM 146 "prepare" (getV "sorter") a0 fPrep))
                (seq (asg "order" (lst a0))
                  (seq (dWhile (do let v ← callM 146 "is_active" (getV "sorter") a0 fAct; truthA v) dTurn nil' 100)
                    (seq (asg "rows" (lst a0))
                      (seq (asg "shares" (lst a0))
                        (seq (forL "i" 100 (fnc rangeD (ac (getV "size") a0)) dRow) dEnd)))))))))))
set_option maxHeartbeats 4000000 in
theorem sim_law (G : Gnd (KK P) h₀) {a : Addr} {vs : List Value} {ns : List Int} (hL : h₀.IsList a vs.toArray) (hI : IntsAre vs ns) (hsz : vs.length ≤ 1000) : SimB prog w h₀ true (k + 6) (fnAt P 195).scope (bodyAt P 195) (dLaw a ns) :=
  b_cons (sac (call_f G (ng G) (g_plain (a_cons (binOp (e_compF [] 100 (e_slice hL hI hsz nl) i_nil (binOp nl c_int op_mod) kl_pure (kl_bin kl_getV kl_pure fun _ _ => kl_ints)) (e_list (a_cons c_int (a_cons c_int (a_cons c_int a_nil)))) op_addL) a_nil)) fun vs => sim_fam G vs))
    (b_cons (sa (call_bi (nb G) (g_plain (a_cons nc a_nil)) bi_len))
      (b_cons (sa (binOp (e_compF [] 100 (e_slice hL hI hsz nl) i_nil (binOp (binOp nl c_int op_mod) c_int op_sub) kl_pure (kl_bin (kl_bin kl_getV kl_pure fun _ _ => kl_ints) kl_pure fun _ _ => kl_ints))
          (e_list (a_cons c_int (a_cons c_int (a_cons c_int (a_cons c_int (a_cons c_int (a_cons c_int (a_cons c_int a_nil)))))))) op_addL))
        (b_cons (sa e_dict0)
          (b_cons (sfc 100 nc (b_one (s_setItem (e_compF ["x"] 100 nc (i_one (t_and2 (cmpT nl nc cmp_ne) (cmpT (call_f G (ng G) (g_plain (a_cons nc (a_cons nl a_nil))) fun vs => sim_and G vs) nl cmp_eq))) nl
              (kl_ite (kl_cmp kl_getV kl_getV fun _ _ => kl_cmpI) (kl_cmp (kl_callF (kl_ac kl_getV (kl_ac kl_getV kl_a0))) kl_getV fun _ _ => kl_cmpI) kl_pure) kl_getV) nl nc)))
            (b_cons (sa (call_new G (by kernel_rfl) (ng G) (g_plain (a_cons nl a_nil)) fun vs => sim_tsNew G vs))
              (b_cons (se (call_m G (f := 101) nl g_nil fun vs => sim_prep G vs))
                (b_cons (sa (e_list a_nil))
                  (b_cons (s_while 100 (t_val (call_m G (f := 115) nl g_nil fun vs => sim_act G vs))
                      (b_cons (sa (call_m G (f := 108) nl g_nil fun vs => sim_ready G vs))
                        (b_cons (se (m_bi nl (g_plain (a_cons nl a_nil)) bi_extend PySem.F.plainAttrs_list PySem.F.slot_list_extend PySem.F.type_list_extend))
                          (b_one (se (call_mS G (f := 129) nl (g_star nl) fun vs => sim_done G vs))))) b_nil)
                    (b_cons (sa (e_list a_nil)) (b_cons (sa (e_list a_nil))
                      (b_cons (sfc 100 (call_ty (nb G) (g_plain (a_cons nl a_nil)) ty_range)
                        (b_cons (sac e_dict0)
                          (b_cons (sf 100 (call_ty (nb G) (g_plain (a_cons nl a_nil)) ty_range)
                              (b_one (s_setItem (e_sub nl (binOp (binOp (binOp nc nl op_mul) nl op_add) (call_bi (nb G) (g_plain (a_cons nl a_nil)) bi_len) op_mod)) nc (e_sub nc nl))))
                            (b_cons (se (m_bi nl (g_plain (a_cons (e_compF ["family", "i", "worth"] 100 nc i_nil (call_f G (ng G) (g_plain (a_cons nc (a_cons (call_f G (ng G) (g_plain (a_cons (e_sub nc nc) (a_cons nl a_nil))) fun vs => sim_and G vs) a_nil))) fun vs => sim_get G vs) kl_pure
                                (kl_callF (kl_ac kl_getV (kl_ac (kl_callF (kl_ac (kl_bin kl_getV kl_getV fun _ _ => kl_subA) (kl_ac kl_getV kl_a0))) kl_a0)))) a_nil)) bi_append PySem.F.plainAttrs_list PySem.F.slot_list_append PySem.F.type_list_append))
                              (b_cons (sac e_dict0)
                                (b_cons (sfc 100 nl (b_one (s_setItem (call_f G (ng G) (g_plain (a_cons (ng G) (a_cons (e_compF ["share"] 100 (e_sub nl nc) i_nil (e_sub nc nl) kl_pure (kl_bin kl_getV kl_getV fun _ _ => kl_subA)) (a_cons (e_sub nc nc) a_nil))))
                                    fun vs => sim_reduce G (f := 171) (by kernel_rfl) (fun vs => sim_sub G vs) vs) nc nc)))
                                  (b_one (se (m_bi nl (g_plain (a_cons (e_sub nc (e_sub nc nc)) a_nil)) bi_append PySem.F.plainAttrs_list PySem.F.slot_list_append PySem.F.type_list_append)))))))))
                        (b_one (s_ret (cmpE (e_sub (call_f G (ng G) (g_plain (a_cons (ng G) (a_cons nl (a_cons (e_dict1 c_int c_int) a_nil)))) fun vs => sim_reduce G (f := 190) (by kernel_rfl) (fun vs => sim_wedge G vs) vs) (binOp (binOp c_int nl op_pow) c_int op_sub))
                          (call_f G (ng G) (g_plain (a_cons (ng G) (a_cons nl a_nil))) fun vs => sim_reduce G (f := 164) (by kernel_rfl) (fun vs => sim_mul G vs) vs) cmp_eq))))))))))))))
end
end Mine
end

section
open PySem PySem.W PyProof.Rows
set_option autoImplicit false
set_option linter.unusedVariables false
set_option maxRecDepth 100000
namespace Mine
/-! running the denotations -/
theorem ev_bind {α β : Type} {d : M α} {f : α → M β} {σ σ₁ : St} {a : α} (h : d σ = some (a, σ₁)) : (d >>= f) σ = f a σ₁ := by
  show (d σ).bind _ = _
  rw [h]; rfl
theorem ev_pure {α : Type} {v : α} {σ : St} : (pure v : M α) σ = some (v, σ) := rfl
theorem ev_getV {x : Str} {σ : St} {v : AVal} (h : σ.lo x = some v) : getV x σ = some (v, σ) := by unfold getV; rw [h]; rfl
theorem ev_getO {i : Nat} {σ : St} {o : AObj} (h : σ.H[i]? = some o) : getO i σ = some (o, σ) := by unfold getO; rw [h]; rfl
theorem ev_setV {x : Str} {v : AVal} {σ : St} : setV x v σ = some ((), ⟨put σ.lo x v, σ.H⟩) := rfl
theorem ev_setO {i : Nat} {o : AObj} {σ : St} : setO i o σ = some ((), ⟨σ.lo, σ.H.set i o⟩) := rfl
theorem ev_newO {o : AObj} {σ : St} : newO o σ = some (.ref σ.H.length, ⟨σ.lo, σ.H ++ [o]⟩) := rfl
theorem put_same {lo : Lo} {x : Str} {v : AVal} : put lo x v x = some v := by simp [put]
theorem put_other {lo : Lo} {x y : Str} {v : AVal} (h : y ≠ x) : put lo x v y = lo y := by simp [put, h]
theorem ev_bin {f : AVal → AVal → M AVal} {l r : M AVal} {σ σ₁ σ₂ : St} {a b : AVal} (h1 : l σ = some (a, σ₁)) (h2 : r σ₁ = some (b, σ₂)) : bin f l r σ = f a b σ₂ := by
  unfold bin; rw [ev_bind h1, ev_bind h2]
theorem ev_cmp {f : AVal → AVal → M Bool} {l r : M AVal} {σ σ₁ σ₂ : St} {a b : AVal} (h1 : l σ = some (a, σ₁)) (h2 : r σ₁ = some (b, σ₂)) : cmp f l r σ = f a b σ₂ := by
  unfold cmp; rw [ev_bind h1, ev_bind h2]
theorem ev_ints {f : Int → Int → Option Int} {a b z : Int} {σ : St} (h : f a b = some z) : intsA f (.int a) (.int b) σ = some (.int z, σ) := by
  unfold intsA; dsimp only; rw [h]; rfl
theorem ev_asg {x : Str} {d : M AVal} {σ σ₁ : St} {v : AVal} (h : d σ = some (v, σ₁)) : asg x d σ = some (.next, ⟨put σ₁.lo x v, σ₁.H⟩) := by
  unfold asg; rw [ev_bind h]; rfl
theorem ev_seq {d d' : M AFlow} {σ σ₁ : St} (h : d σ = some (.next, σ₁)) : seq d d' σ = d' σ₁ := by
  unfold seq; rw [ev_bind h]
theorem ev_ifT {t : M Bool} {a b : M AFlow} {σ σ₁ : St} (h : t σ = some (true, σ₁)) : ifs t a b σ = a σ₁ := by unfold ifs; rw [ev_bind h]; rfl
theorem ev_ifF {t : M Bool} {a b : M AFlow} {σ σ₁ : St} (h : t σ = some (false, σ₁)) : ifs t a b σ = b σ₁ := by unfold ifs; rw [ev_bind h]; rfl
theorem ev_rets {d : M AVal} {σ σ₁ : St} {v : AVal} (h : d σ = some (v, σ₁)) : rets d σ = some (.ret v, σ₁) := by unfold rets; rw [ev_bind h]; rfl
theorem ev_exprs {d : M AVal} {σ σ₁ : St} {v : AVal} (h : d σ = some (v, σ₁)) : exprs d σ = some (.next, σ₁) := by unfold exprs; rw [ev_bind h]; rfl
theorem ev_ac {d : M AVal} {ds : M (List AVal)} {σ σ₁ σ₂ : St} {v : AVal} {vs : List AVal} (h : d σ = some (v, σ₁)) (h' : ds σ₁ = some (vs, σ₂)) : ac d ds σ = some (v :: vs, σ₂) := by
  unfold ac; rw [ev_bind h, ev_bind h']; rfl
theorem ev_a0 {σ : St} : a0 σ = some ([], σ) := rfl
theorem ev_fnc {D : List AVal → M AVal} {ds : M (List AVal)} {σ σ₁ : St} {vs : List AVal} (h : ds σ = some (vs, σ₁)) : fnc D ds σ = D vs σ₁ := by unfold fnc; rw [ev_bind h]
theorem ev_callF {D : List AVal → List AObj → Option (AVal × List AObj)} {ds : M (List AVal)} {σ σ₁ : St} {vs : List AVal} {v : AVal} {H' : List AObj} (h : ds σ = some (vs, σ₁)) (h' : D vs σ₁.H = some (v, H')) : callF D ds σ = some (v, ⟨σ₁.lo, H'⟩) := by
  unfold callF; rw [ev_bind h]; unfold onH; rw [h']; rfl
theorem ev_I {i : Int} {σ : St} : I i σ = some (.int i, σ) := rfl
theorem ev_neg {d : M AVal} {σ σ₁ : St} {i : Int} (h : d σ = some (.int i, σ₁)) : neg d σ = some (.int (-i), σ₁) := by unfold neg; rw [ev_bind h]; rfl
theorem ev_chkT {T : String} {i : Nat} {σ : St} {o : AObj} (h : σ.H[i]? = some o) (hk : kindT T o = true) : chkT T (.ref i) σ = some ((), σ) := by
  unfold chkT; dsimp only; rw [ev_bind (ev_getO h), if_pos hk]; rfl
theorem ev_meth {T : String} {o : M AVal} {D : List AVal → M AVal} {ds : M (List AVal)} {σ σ₁ σ₂ : St} {i : Nat} {ob : AObj} {vs : List AVal} (h : o σ = some (.ref i, σ₁)) (h1 : σ₁.H[i]? = some ob) (hk : kindT T ob = true) (h' : ds σ₁ = some (vs, σ₂)) : meth T o D ds σ = D (.ref i :: vs) σ₂ := by
  unfold meth; rw [ev_bind h, ev_bind (ev_chkT h1 hk), ev_bind h']
theorem loop_step {nx : Nx} {bnd : AVal → M Unit} {db : M AFlow} {m i : Nat} {σ σ₁ σ₂ : St} {v : AVal} (h : nx i σ.H = some (some v)) (h1 : bnd v σ = some ((), σ₁)) (h2 : db σ₁ = some (.next, σ₂)) : dLoop nx bnd db (m + 1) i σ = dLoop nx bnd db m (i + 1) σ₂ := by
  conv => lhs; unfold dLoop
  rw [h]
  show (bnd v >>= fun _ => _) σ = _
  rw [ev_bind h1, ev_bind h2]
theorem loop_cont {nx : Nx} {bnd : AVal → M Unit} {db : M AFlow} {m i : Nat} {σ σ₁ σ₂ : St} {v : AVal} (h : nx i σ.H = some (some v)) (h1 : bnd v σ = some ((), σ₁)) (h2 : db σ₁ = some (.cont, σ₂)) : dLoop nx bnd db (m + 1) i σ = dLoop nx bnd db m (i + 1) σ₂ := by
  conv => lhs; unfold dLoop
  rw [h]
  show (bnd v >>= fun _ => _) σ = _
  rw [ev_bind h1, ev_bind h2]
theorem loop_end {nx : Nx} {bnd : AVal → M Unit} {db : M AFlow} {m i : Nat} {σ : St} (h : nx i σ.H = some none) : dLoop nx bnd db (m + 1) i σ = some (.next, σ) := by
  conv => lhs; unfold dLoop
  rw [h]
theorem ev_forL {x : Str} {n : Nat} {d : M AVal} {b : M AFlow} {σ σ₁ : St} {v : AVal} {nx : Nx} (h : d σ = some (v, σ₁)) (h1 : mkNx v σ₁ = some (nx, σ₁)) : forL x n d b σ = dLoop nx (setV x) b n 0 σ₁ := by
  unfold forL; rw [ev_bind h, ev_bind h1]
theorem ev_setI {o i v : M AVal} {σ σ₁ σ₂ σ₃ σ₄ : St} {u ov iv : AVal} (h1 : v σ = some (u, σ₁)) (h2 : o σ₁ = some (ov, σ₂)) (h3 : i σ₂ = some (iv, σ₃)) (h4 : setA ov iv u σ₃ = some ((), σ₄)) : setI o i v σ = some (.next, σ₄) := by
  unfold setI; rw [ev_bind h1, ev_bind h2, ev_bind h3, ev_bind h4]; rfl
theorem ev_setA {a : Nat} {i : Int} {u : AVal} {σ : St} {ep : Nat} {kvs : List (Int × AVal)} (h : σ.H[a]? = some (.dict ep kvs)) (hl : kvs.length ≤ 1000) :
    setA (.ref a) (.int i) u σ = some ((), ⟨σ.lo, σ.H.set a (.dict (if hasK kvs i then ep else ep + 1) (storA kvs i u))⟩) := by
  unfold setA; dsimp only; rw [ev_bind (ev_getO h)]; dsimp only; rw [if_pos hl]; rfl
theorem ev_subL {a : Nat} {i : Int} {vs : List AVal} {v : AVal} {σ : St} (h : σ.H[a]? = some (.list vs)) (h0 : 0 ≤ i) (h1 : i < 2 ^ 62) (hv : vs[i.toNat]? = some v) : subA (.ref a) (.int i) σ = some (v, σ) := by
  unfold subA; dsimp only; rw [ev_bind (ev_getO h)]
  show (if 0 ≤ i ∧ i < 2 ^ 62 then _ else _ : M AVal) σ = _
  rw [if_pos ⟨h0, h1⟩, hv]; rfl
theorem ev_subD {a : Nat} {i : Int} {ep : Nat} {kvs : List (Int × AVal)} {v : AVal} {σ : St} (h : σ.H[a]? = some (.dict ep kvs)) (hv : lookA kvs i = some v) : subA (.ref a) (.int i) σ = some (v, σ) := by
  unfold subA; dsimp only; rw [ev_bind (ev_getO h)]
  show lift (lookA kvs i) σ = _
  rw [hv]; rfl
theorem ev_getD1 {a : Nat} {i : Int} {ep : Nat} {kvs : List (Int × AVal)} {dv : AVal} {σ : St} (h : σ.H[a]? = some (.dict ep kvs)) : getD1 [.ref a, .int i, dv] σ = some ((lookA kvs i).getD dv, σ) := by
  unfold getD1; dsimp only
  have e : asDictR (.ref a) σ = some ((a, kvs), σ) := by unfold asDictR; dsimp only; rw [ev_bind (ev_getO h)]; rfl
  rw [ev_bind e]; rfl
theorem ev_lenL {a : Nat} {vs : List AVal} {σ : St} (h : σ.H[a]? = some (.list vs)) (hl : vs.length ≤ 1000) : lenA [.ref a] σ = some (.int vs.length, σ) := by
  unfold lenA; dsimp only; rw [ev_bind (ev_getO h)]; dsimp only; rw [if_pos hl]; rfl
end Mine
end

section
open PySem PySem.W PyProof.Rows
set_option autoImplicit false
set_option linter.unusedVariables false
set_option maxRecDepth 100000
namespace Mine
/-! _law_wedge, run -/
noncomputable def IV (t : List (Int × Int)) : List (Int × AVal) := t.map fun p => (p.1, .int p.2)
theorem look_IV (t : List (Int × Int)) (k : Int) : lookA (IV t) k = (lookA t k).map .int := by
  unfold lookA IV
  induction t with
  | nil => rfl
  | cons p t ih =>
    simp only [List.map_cons, List.find?_cons]
    by_cases h : p.1 = k
    · simp [h]
    · simp only [h, decide_false]; exact ih
theorem has_IV (t : List (Int × Int)) (k : Int) : hasK (IV t) k = hasK t k := by
  unfold hasK IV
  induction t with
  | nil => rfl
  | cons p t ih => simp only [List.map_cons, List.any_cons, ih]
theorem stor_IV (t : List (Int × Int)) (k v : Int) : storA (IV t) k (.int v) = IV (storA t k v) := by
  unfold storA
  rw [has_IV]
  split
  · unfold IV
    rw [List.map_map, List.map_map]
    refine List.map_congr_left fun p _ => ?_
    simp only [Function.comp]
    split <;> rfl
  · simp [IV]
theorem IV_length (t : List (Int × Int)) : (IV t).length = t.length := by simp [IV]
theorem storA_length {V : Type} (t : List (Int × V)) (k : Int) (v : V) : (storA t k v).length ≤ t.length + 1 := by
  unfold storA
  split
  · simp
  · simp
noncomputable def upd (t : List (Int × Int)) (k a : Int) : List (Int × Int) := storA t k ((lookA t k).getD 0 + a)
noncomputable def inW (row : List Int) (used : Int) : Nat → Int → List (Int × Int) → List (Int × Int)
  | 0, _, t => t
  | j + 1, w, t => if (used.fdiv (2 ^ j)).fmod 2 = 1 then inW row used j (-w) t else inW row used j w (upd t (used + 2 ^ j) (w * (row[j]?).getD 0))
theorem set_get {H : List AObj} {i : Nat} {o o' : AObj} (h : H[i]? = some o) : (H.set i o')[i]? = some o' := by
  have := (List.getElem?_eq_some_iff.mp h).1
  rw [List.getElem?_set_self this]
theorem set_ne {H : List AObj} {i j : Nat} {o o' : AObj} (h : H[i]? = some o) (hne : j ≠ i) : (H.set j o')[i]? = some o := by
  rw [List.getElem?_set_ne hne]; exact h
noncomputable abbrev S (s : String) : Str := Str.ofString s
theorem win_run {n : Nat} {row : List Int} {used : Int} {tt r : Nat} (hn : n ≤ 6) (hrow : row.length = n) (hb : ∀ x ∈ row, x.natAbs < 2 ^ 63) (hrt : tt ≠ r) : ∀ (c i fuel : Nat) (lo : Lo) (H : List AObj) (w : Int) (t : List (Int × Int)) (ep : Nat), i + c = n → c < fuel →
    lo "used" = some (.int used) → lo "worth" = some (.int w) → lo "told" = some (.ref tt) → lo "row" = some (.ref r) → H[r]? = some (.list (row.map .int)) → H[tt]? = some (.dict ep (IV t)) → t.length + c ≤ 1000 →
    ∃ lo' ep', dLoop (nxRange ((n : Int) - 1) (-1) n) (setV "j") dWin fuel i ⟨lo, H⟩ = some (.next, ⟨lo', H.set tt (.dict ep' (IV (inW row used c w t)))⟩) ∧ ∀ y : Str, y ≠ "j" → y ≠ "worth" → y ≠ "now" → lo' y = lo y := by
  intro c
  induction c with
  | zero =>
    intro i fuel lo H w t ep hi hf h1 h2 h3 h4 h5 h6 hl
    obtain ⟨m, rfl⟩ : ∃ m, fuel = m + 1 := ⟨fuel - 1, by omega⟩
    refine ⟨lo, ep, ?_, fun _ _ _ _ => rfl⟩
    rw [loop_end (by unfold nxRange; rw [if_neg (by omega)])]
    have : H.set tt (.dict ep (IV (inW row used 0 w t))) = H := by
      refine List.ext_getElem? fun k => ?_
      by_cases q : k = tt
      · subst q; rw [set_get h6, h6]; rfl
      · rw [List.getElem?_set_ne (Ne.symm q)]
    rw [this]
  | succ c ih =>
    intro i fuel lo H w t ep hi hf h1 h2 h3 h4 h5 h6 hl
    obtain ⟨m, rfl⟩ : ∃ m, fuel = m + 1 := ⟨fuel - 1, by omega⟩
    have hj : (n : Int) - 1 + (i : Int) * (-1) = (c : Int) := by omega
    have hnx : nxRange ((n : Int) - 1) (-1) n i H = some (some (.int c)) := by unfold nxRange; rw [if_pos (by omega), hj]
    have l1 : put lo "j" (.int c) "used" = some (.int used) := (put_other (by decide)).trans h1
    have l2 : put lo "j" (.int c) "worth" = some (.int w) := (put_other (by decide)).trans h2
    have l3 : put lo "j" (.int c) "told" = some (.ref tt) := (put_other (by decide)).trans h3
    have l4 : put lo "j" (.int c) "row" = some (.ref r) := (put_other (by decide)).trans h4
    have lj : put lo "j" (.int c) "j" = some (.int c) := put_same
    have hcond : cmp eqI (bin (intsA fMod) (bin (intsA fShr) (getV "used") (getV "j")) (I 2)) (I 1) ⟨put lo "j" (.int c), H⟩ = some (decide ((used.fdiv (2 ^ c)).fmod 2 = 1), ⟨put lo "j" (.int c), H⟩) := by
      rw [ev_cmp (a := .int ((used.fdiv (2 ^ c)).fmod 2)) (b := .int 1) (σ₁ := ⟨put lo "j" (.int c), H⟩) (σ₂ := ⟨put lo "j" (.int c), H⟩) ?_ rfl]
      · show some (_ == _, _) = _
        rfl
      · rw [ev_bin (a := .int (used.fdiv (2 ^ c))) (b := .int 2) (σ₁ := ⟨put lo "j" (.int c), H⟩) (σ₂ := ⟨put lo "j" (.int c), H⟩) ?_ rfl]
        · exact ev_ints (by unfold fMod; rw [if_neg (by decide)])
        · rw [ev_bin (ev_getV l1) (ev_getV lj)]
          exact ev_ints (by unfold fShr; rw [if_pos (by omega)]; rfl)
    by_cases hbit : (used.fdiv (2 ^ c)).fmod 2 = 1
    · have hbody : dWin ⟨put lo "j" (.int c), H⟩ = some (.next, ⟨put (put lo "j" (.int c)) "worth" (.int (-w)), H⟩) := by
        unfold dWin
        rw [ev_ifT (by rw [hcond, decide_eq_true hbit])]
        exact ev_asg (ev_neg (ev_getV l2))
      rw [loop_step hnx ev_setV hbody]
      obtain ⟨lo', ep', e1, e2⟩ := ih (i + 1) m (put (put lo "j" (.int c)) "worth" (.int (-w))) H (-w) t ep (by omega) (by omega) ((put_other (by decide)).trans l1) put_same ((put_other (by decide)).trans l3) ((put_other (by decide)).trans l4) h5 h6 (by omega)
      refine ⟨lo', ep', ?_, fun y y1 y2 y3 => ?_⟩
      · rw [e1]; simp only [inW, if_pos hbit]
      · rw [e2 y y1 y2 y3, put_other y2, put_other y1]
    · have hrc : (row.map AVal.int)[c]? = some (.int ((row[c]?).getD 0)) := by
        have : c < row.length := by omega
        simp [this]
      have hbc : ((row[c]?).getD 0).natAbs < 2 ^ 63 := by
        have hlt : c < row.length := by omega
        rw [List.getElem?_eq_getElem hlt]
        exact hb _ (List.getElem_mem hlt)
      have hbody : dWin ⟨put lo "j" (.int c), H⟩ = some (.next, ⟨put (put lo "j" (.int c)) "now" (.int (used + 2 ^ c)), H.set tt (.dict (if hasK (IV t) (used + 2 ^ c) then ep else ep + 1) (IV (upd t (used + 2 ^ c) (w * (row[c]?).getD 0))))⟩) := by
        unfold dWin
        rw [ev_ifF (by rw [hcond, decide_eq_false hbit])]
        rw [ev_seq (ev_asg (v := .int (used + 2 ^ c)) (σ₁ := ⟨put lo "j" (.int c), H⟩) ?_)]
        · have g3 : put (put lo "j" (.int c)) "now" (.int (used + 2 ^ c)) "told" = some (.ref tt) := (put_other (by decide)).trans l3
          have gn : put (put lo "j" (.int c)) "now" (.int (used + 2 ^ c)) "now" = some (.int (used + 2 ^ c)) := put_same
          have g2 : put (put lo "j" (.int c)) "now" (.int (used + 2 ^ c)) "worth" = some (.int w) := (put_other (by decide)).trans l2
          have g4 : put (put lo "j" (.int c)) "now" (.int (used + 2 ^ c)) "row" = some (.ref r) := (put_other (by decide)).trans l4
          have gj : put (put lo "j" (.int c)) "now" (.int (used + 2 ^ c)) "j" = some (.int c) := (put_other (by decide)).trans lj
          refine ev_setI (u := .int ((lookA t (used + 2 ^ c)).getD 0 + w * (row[c]?).getD 0)) (σ₁ := ⟨put (put lo "j" (.int c)) "now" (.int (used + 2 ^ c)), H⟩) ?_ (ev_getV g3) (ev_getV gn) ?_
          · rw [ev_bin (a := .int ((lookA t (used + 2 ^ c)).getD 0)) (b := .int (w * (row[c]?).getD 0)) (σ₁ := ⟨put (put lo "j" (.int c)) "now" (.int (used + 2 ^ c)), H⟩) (σ₂ := ⟨put (put lo "j" (.int c)) "now" (.int (used + 2 ^ c)), H⟩) ?_ ?_]
            · exact ev_ints rfl
            · rw [ev_meth (ev_getV g3) h6 rfl (ev_ac (ev_getV gn) (ev_ac ev_I ev_a0)), ev_getD1 h6, look_IV]
              cases lookA t (used + 2 ^ c) <;> rfl
            · rw [ev_bin (ev_getV g2) (b := .int ((row[c]?).getD 0)) (σ₂ := ⟨put (put lo "j" (.int c)) "now" (.int (used + 2 ^ c)), H⟩) ?_]
              · exact ev_ints (by unfold fMul; rw [if_pos hbc])
              · rw [ev_bin (ev_getV g4) (ev_getV gj)]
                exact ev_subL h5 (by omega) (by omega) (by simpa using hrc)
          · rw [ev_setA h6 (by rw [IV_length]; omega), stor_IV]; rfl
        · rw [ev_bin (ev_getV l1) (b := .int (2 ^ c)) (σ₂ := ⟨put lo "j" (.int c), H⟩) ?_]
          · exact ev_ints rfl
          · rw [ev_bin ev_I (ev_getV lj)]
            exact ev_ints (by unfold fPow; rw [if_pos ⟨by omega, by omega, by decide⟩]; rfl)
      rw [loop_step hnx ev_setV hbody]
      have hul : (upd t (used + 2 ^ c) (w * (row[c]?).getD 0)).length ≤ t.length + 1 := storA_length _ _ _
      obtain ⟨lo', ep', e1, e2⟩ := ih (i + 1) m (put (put lo "j" (.int c)) "now" (.int (used + 2 ^ c))) (H.set tt (.dict (if hasK (IV t) (used + 2 ^ c) then ep else ep + 1) (IV (upd t (used + 2 ^ c) (w * (row[c]?).getD 0))))) w (upd t (used + 2 ^ c) (w * (row[c]?).getD 0)) _
        (by omega) (by omega) ((put_other (by decide)).trans l1) ((put_other (by decide)).trans l2) ((put_other (by decide)).trans l3) ((put_other (by decide)).trans l4) (set_ne h5 hrt) (set_get h6) (by omega)
      refine ⟨lo', ep', ?_, fun y y1 y2 y3 => ?_⟩
      · rw [e1, List.set_set]; simp only [inW, if_neg hbit]
      · rw [e2 y y1 y2 y3, put_other y3, put_other y1]
end Mine
end

section
open PySem PySem.W PyProof.Rows
set_option autoImplicit false
set_option linter.unusedVariables false
set_option maxRecDepth 100000
namespace Mine
/-- the heap grows; what stood stays, but at tt -/
structure Gro (tt : Nat) (H H' : List AObj) : Prop where
  len : H.length ≤ H'.length
  keep : ∀ i, i < H.length → i ≠ tt → H'[i]? = H[i]?
theorem Gro.refl (tt : Nat) (H : List AObj) : Gro tt H H := ⟨Nat.le_refl _, fun _ _ _ => rfl⟩
theorem Gro.trans {tt : Nat} {H H₁ H₂ : List AObj} (x : Gro tt H H₁) (y : Gro tt H₁ H₂) : Gro tt H H₂ :=
  ⟨Nat.le_trans x.len y.len, fun i h1 h2 => (y.keep i (Nat.lt_of_lt_of_le h1 x.len) h2).trans (x.keep i h1 h2)⟩
theorem Gro.set (tt : Nat) (H : List AObj) (o : AObj) : Gro tt H (H.set tt o) := ⟨by simp, fun i _ h => List.getElem?_set_ne (Ne.symm h)⟩
theorem Gro.app (tt : Nat) (H l : List AObj) : Gro tt H (H ++ l) := ⟨by simp, fun i h _ => List.getElem?_append_left h⟩
theorem Gro.at {tt : Nat} {H H' : List AObj} (x : Gro tt H H') {i : Nat} {o : AObj} (h : H[i]? = some o) (hne : i ≠ tt) : H'[i]? = some o := by
  rw [x.keep i (List.getElem?_eq_some_iff.mp h).1 hne]; exact h

theorem range_down : ∀ n : Fin 7, Builtin.Range.small ((n.val : Int) - 1) (-1) (-1) = true ∧ 0 ≤ Builtin.Range.rangeSize ((n.val : Int) - 1) (-1) (-1) ∧ (Builtin.Range.rangeSize ((n.val : Int) - 1) (-1) (-1)).toNat = n.val := by decide
theorem range_up : ∀ n : Fin 7, Builtin.Range.small 0 (n.val : Int) 1 = true ∧ 0 ≤ Builtin.Range.rangeSize 0 (n.val : Int) 1 ∧ (Builtin.Range.rangeSize 0 (n.val : Int) 1).toNat = n.val := by decide
theorem mk_range {a b c : Int} {i n : Nat} {σ : St} (h : σ.H[i]? = some (.range a b c)) (h1 : Builtin.Range.small a b c = true ∧ 0 ≤ Builtin.Range.rangeSize a b c ∧ (Builtin.Range.rangeSize a b c).toNat = n) : mkNx (.ref i) σ = some (nxRange a c n, σ) := by
  unfold mkNx; dsimp only; rw [ev_bind (ev_getO h)]; dsimp only; rw [if_pos ⟨h1.1, h1.2.1⟩, h1.2.2]; rfl
theorem mk_dict {i ep : Nat} {kvs : List (Int × AVal)} {σ : St} (h : σ.H[i]? = some (.dict ep kvs)) : mkNx (.ref i) σ = some (nxKeys i ep kvs.length, σ) := by
  unfold mkNx; dsimp only; rw [ev_bind (ev_getO h)]; rfl
theorem mk_list {i : Nat} {vs : List AVal} {σ : St} (h : σ.H[i]? = some (.list vs)) : mkNx (.ref i) σ = some (nxList i, σ) := by
  unfold mkNx; dsimp only; rw [ev_bind (ev_getO h)]; rfl
theorem mk_tuple {i : Nat} {vs : List AVal} {σ : St} (h : σ.H[i]? = some (.tuple vs)) : mkNx (.ref i) σ = some (nxTuple i, σ) := by
  unfold mkNx; dsimp only; rw [ev_bind (ev_getO h)]; rfl
noncomputable def outW (n : Nat) (row : List Int) (ks t : List (Int × Int)) : List (Int × Int) := ks.foldl (fun t p => inW row p.1 n p.2 t) t
theorem inW_length (row : List Int) (used : Int) : ∀ (n : Nat) (w : Int) (t : List (Int × Int)), (inW row used n w t).length ≤ t.length + n
  | 0, _, t => Nat.le_refl _
  | n + 1, w, t => by
    unfold inW
    split
    · exact Nat.le_trans (inW_length row used n _ t) (by omega)
    · refine Nat.le_trans (inW_length row used n _ _) ?_
      have := storA_length t (used + 2 ^ n) ((lookA t (used + 2 ^ n)).getD 0 + w * (row[n]?).getD 0)
      unfold upd; omega
theorem look_mem {V : Type} {ks : List (Int × V)} {p : Int × V} (hnd : (ks.map (·.1)).Nodup) (hm : p ∈ ks) : lookA ks p.1 = some p.2 := by
  unfold lookA
  induction ks with
  | nil => cases hm
  | cons q qs ihq =>
    rw [List.find?_cons]
    have hnd' := List.nodup_cons.mp hnd
    rcases List.mem_cons.mp hm with rfl | hm
    · simp
    · have hne : q.1 ≠ p.1 := fun e => hnd'.1 (by show q.1 ∈ qs.map (·.1); rw [e]; exact List.mem_map_of_mem hm)
      simp only [hne, decide_false]
      exact ihq hnd'.2 hm
theorem wout_run {n : Nat} {row : List Int} {f tt r epf : Nat} {ks : List (Int × Int)} (hn : n ≤ 6) (hrow : row.length = n) (hb : ∀ x ∈ row, x.natAbs < 2 ^ 63) (hrt : tt ≠ r) (hft : f ≠ tt) (hnd : (ks.map (·.1)).Nodup) : ∀ (rest : List (Int × Int)) (i fuel : Nat) (lo : Lo) (H : List AObj) (t : List (Int × Int)) (ep : Nat),
    ks.drop i = rest → rest.length < fuel → lo "forms" = some (.ref f) → lo "told" = some (.ref tt) → lo "row" = some (.ref r) → H[f]? = some (.dict epf (IV ks)) → H[r]? = some (.list (row.map .int)) → H[tt]? = some (.dict ep (IV t)) → t.length + rest.length * 6 ≤ 1000 →
    ∃ lo' H' ep', dLoop (nxKeys f epf ks.length) (setV "used") dWout fuel i ⟨lo, H⟩ = some (.next, ⟨lo', H'⟩) ∧ Gro tt H H' ∧ H'[tt]? = some (.dict ep' (IV (outW n row rest t))) ∧ lo' "told" = some (.ref tt) := by
  intro rest
  induction rest with
  | nil =>
    intro i fuel lo H t ep hd hf h1 h3 h4 h5 h6 h7 hl
    obtain ⟨m, rfl⟩ : ∃ m, fuel = m + 1 := ⟨fuel - 1, by simp at hf; omega⟩
    refine ⟨lo, H, ep, ?_, .refl .., h7, h3⟩
    have hi : ks.length ≤ i := List.drop_eq_nil_iff.mp hd
    rw [loop_end]
    unfold nxKeys
    rw [h5]; dsimp only
    rw [if_pos ⟨rfl, IV_length ks⟩]
    have : (IV ks)[i]? = none := List.getElem?_eq_none (by rw [IV_length]; exact hi)
    rw [this]; rfl
  | cons p rest ih =>
    intro i fuel lo H t ep hd hf h1 h3 h4 h5 h6 h7 hl
    obtain ⟨m, rfl⟩ : ∃ m, fuel = m + 1 := ⟨fuel - 1, by simp at hf; omega⟩
    have hki : ks[i]? = some p := by
      have : (ks.drop i)[0]? = some p := by rw [hd]; rfl
      simpa using this
    have hd' : ks.drop (i + 1) = rest := by
      have : (ks.drop i).drop 1 = rest := by rw [hd]; rfl
      rwa [List.drop_drop] at this
    have hnx : nxKeys f epf ks.length i H = some (some (.int p.1)) := by
      unfold nxKeys
      rw [h5]; dsimp only
      rw [if_pos ⟨rfl, IV_length ks⟩]
      have : (IV ks)[i]? = some (p.1, .int p.2) := by unfold IV; rw [List.getElem?_map, hki]; rfl
      rw [this]; rfl
    have hlk : lookA (IV ks) p.1 = some (.int p.2) := by
      rw [look_IV]
      have : lookA ks p.1 = some p.2 := look_mem hnd (List.mem_iff_getElem?.mpr ⟨i, hki⟩)
      rw [this]; rfl
    -- the body
    let lo1 := put lo "used" (.int p.1)
    have l1 : lo1 "forms" = some (.ref f) := (put_other (by decide)).trans h1
    have lu : lo1 "used" = some (.int p.1) := put_same
    let lo2 := put lo1 "worth" (.int p.2)
    have hw : asg "worth" (bin subA (getV "forms") (getV "used")) ⟨lo1, H⟩ = some (.next, ⟨lo2, H⟩) := by
      refine ev_asg (v := .int p.2) (σ₁ := ⟨lo1, H⟩) ?_
      rw [ev_bin (ev_getV l1) (ev_getV lu)]
      exact ev_subD h5 hlk
    have l2u : lo2 "used" = some (.int p.1) := (put_other (by decide)).trans lu
    have l2t : lo2 "told" = some (.ref tt) := ((put_other (by decide)).trans (put_other (by decide))).trans h3
    have l2r : lo2 "row" = some (.ref r) := ((put_other (by decide)).trans (put_other (by decide))).trans h4
    have l2w : lo2 "worth" = some (.int p.2) := put_same
    let H1 := H ++ [AObj.range ((n : Int) - 1) (-1) (-1)]
    have g1 : Gro tt H H1 := .app ..
    have hr1 : H1[r]? = some (.list (row.map .int)) := by
      have := (List.getElem?_eq_some_iff.mp h6).1
      rw [List.getElem?_append_left this]; exact h6
    have ht1 : H1[tt]? = some (.dict ep (IV t)) := by
      have := (List.getElem?_eq_some_iff.mp h7).1
      rw [List.getElem?_append_left this]; exact h7
    have hl1 : H1[H.length]? = some (.range ((n : Int) - 1) (-1) (-1)) := by rw [List.getElem?_append_right (Nat.le_refl _)]; simp
    have hlen : lenA [.ref r] ⟨lo2, H⟩ = some (.int n, ⟨lo2, H⟩) := by
      rw [ev_lenL h6 (by simp [hrow]; omega)]; simp [hrow]
    have hrng : fnc rangeD (ac (bin (intsA fSub) (fnc lenA (ac (getV "row") a0)) (I 1)) (ac (neg (I 1)) (ac (neg (I 1)) a0))) ⟨lo2, H⟩ = some (.ref H.length, ⟨lo2, H1⟩) := by
      rw [ev_fnc (ev_ac (v := .int ((n : Int) - 1)) (σ₁ := ⟨lo2, H⟩) ?_ (ev_ac (ev_neg ev_I) (ev_ac (ev_neg ev_I) ev_a0)))]
      · unfold rangeD; dsimp only
        rw [if_pos ⟨rfl, by omega⟩]; rfl
      · rw [ev_bin (a := .int n) (σ₁ := ⟨lo2, H⟩) (by rw [ev_fnc (ev_ac (ev_getV l2r) ev_a0)]; exact hlen) ev_I]
        exact ev_ints rfl
    have rd := range_down ⟨n, by omega⟩
    obtain ⟨lo3, ep3, e1, e2⟩ := win_run hn hrow hb hrt n 0 100 lo2 H1 p.2 t ep (by omega) (by omega) l2u l2w l2t l2r hr1 ht1 (by simp at hl; omega)
    have hbody : dWout ⟨lo1, H⟩ = some (.next, ⟨lo3, H1.set tt (.dict ep3 (IV (inW row p.1 n p.2 t)))⟩) := by
      unfold dWout
      rw [ev_seq hw, ev_forL hrng (mk_range (n := n) hl1 rd)]
      exact e1
    rw [loop_step hnx ev_setV hbody]
    have keep3 : ∀ y : Str, y ≠ "j" → y ≠ "worth" → y ≠ "now" → y ≠ "used" → lo3 y = lo y := fun y y1 y2 y3 y4 => by rw [e2 y y1 y2 y3]; exact (put_other y2).trans (put_other y4)
    have hf1 : H1[f]? = some (.dict epf (IV ks)) := g1.at h5 hft
    obtain ⟨lo', H', ep', a1, a2, a3, a4⟩ := ih (i + 1) m lo3 (H1.set tt (.dict ep3 (IV (inW row p.1 n p.2 t)))) (inW row p.1 n p.2 t) ep3 hd' (by simp at hf; omega)
      ((keep3 _ (by decide) (by decide) (by decide) (by decide)).trans h1) ((keep3 _ (by decide) (by decide) (by decide) (by decide)).trans h3) ((keep3 _ (by decide) (by decide) (by decide) (by decide)).trans h4)
      (set_ne hf1 (Ne.symm hft)) (set_ne hr1 hrt) (set_get ht1) (by have := inW_length row p.1 n p.2 t; simp at hl; omega)
    exact ⟨lo', H', ep', a1, (g1.trans (.set ..)).trans a2, a3, a4⟩
theorem wedge_run {n : Nat} {row : List Int} {f r epf : Nat} {ks : List (Int × Int)} {H : List AObj} (hn : n ≤ 6) (hrow : row.length = n) (hb : ∀ x ∈ row, x.natAbs < 2 ^ 63) (hnd : (ks.map (·.1)).Nodup) (hk : ks.length ≤ 100)
    (h5 : H[f]? = some (.dict epf (IV ks))) (h6 : H[r]? = some (.list (row.map .int))) :
    ∃ H' ep', fWedF [.ref f, .ref r] H = some (.ref H.length, H') ∧ H.length ≤ H'.length ∧ (∀ i, i < H.length → H'[i]? = H[i]?) ∧ H'[H.length]? = some (.dict ep' (IV (outW n row ks []))) := by
  have hfl := (List.getElem?_eq_some_iff.mp h5).1
  have hrl := (List.getElem?_eq_some_iff.mp h6).1
  let lo0 : Lo := put (put (fun _ => none) "forms" (.ref f)) "row" (.ref r)
  have l1 : lo0 "forms" = some (.ref f) := (put_other (by decide)).trans put_same
  have l2 : lo0 "row" = some (.ref r) := put_same
  let lo1 := put lo0 "told" (.ref H.length)
  obtain ⟨lo', H', ep', a1, a2, a3, a4⟩ := wout_run (n := n) (row := row) (f := f) (tt := H.length) (r := r) (epf := epf) (ks := ks) hn hrow hb (by omega) (by omega) hnd ks 0 1000 lo1 (H ++ [.dict 0 (IV [])]) [] 0 rfl (by omega)
    ((put_other (by decide)).trans l1) put_same ((put_other (by decide)).trans l2) (by rw [List.getElem?_append_left hfl]; exact h5) (by rw [List.getElem?_append_left hrl]; exact h6) (by rw [List.getElem?_append_right (Nat.le_refl _)]; simp) (by simp; omega)
  have hrun : dWedge ⟨lo0, H⟩ = some (.ret (.ref H.length), ⟨lo', H'⟩) := by
    unfold dWedge
    rw [ev_seq (ev_asg ev_newO)]
    rw [ev_seq (σ₁ := ⟨lo', H'⟩) ?_]
    · exact ev_rets (ev_getV a4)
    · rw [ev_forL (ev_getV (show put lo0 "told" (.ref H.length) "forms" = some (.ref f) from (put_other (by decide)).trans l1)) (mk_dict (show (H ++ [AObj.dict 0 []])[f]? = some (.dict epf (IV ks)) by rw [List.getElem?_append_left hfl]; exact h5)), IV_length]
      exact a1
  refine ⟨H', ep', ?_, ?_, fun i hi => ?_, a3⟩
  · unfold fWedF runF bd2
    simp only [Option.bind_some]
    show (dWedge ⟨lo0, H⟩).bind _ = _
    rw [hrun]; rfl
  · have := a2.len; simp at this; omega
  · rw [a2.keep i (by simp; omega) (by omega), List.getElem?_append_left hi]
end Mine
end

section
open PySem PySem.W PyProof.Rows
set_option autoImplicit false
set_option linter.unusedVariables false
namespace Mine
/-! what the wedge's dict says -/
noncomputable def val : List Bool → Int
  | [] => 0
  | b :: T => (if b then 2 ^ T.length else 0) + val T
theorem pow_pos (n : Nat) : (0 : Int) < 2 ^ n := by
  induction n with
  | zero => decide
  | succ n ih => rw [Int.pow_succ]; omega
theorem val_bound (T : List Bool) : 0 ≤ val T ∧ val T < 2 ^ T.length := by
  induction T with
  | nil => simp [val]
  | cons b T ih =>
    have := pow_pos T.length
    simp only [val, List.length_cons, Int.pow_succ]
    cases b <;> simp <;> omega
theorem val_append (p T : List Bool) : val (p ++ T) = val p * 2 ^ T.length + val T := by
  induction p with
  | nil => simp [val]
  | cons b p ih =>
    simp only [List.cons_append, val, ih, List.length_append, Int.pow_add]
    cases b with
    | false => simp
    | true => simp only [if_true]; rw [Int.add_mul]; omega
theorem val_inj {T T' : List Bool} (hl : T.length = T'.length) (h : val T = val T') : T = T' := by
  induction T generalizing T' with
  | nil => cases T' with
    | nil => rfl
    | cons _ _ => simp at hl
  | cons b T ih =>
    cases T' with
    | nil => simp at hl
    | cons b' T' =>
      have hl' : T.length = T'.length := by simpa using hl
      have h1 := val_bound T
      have h2 := val_bound T'
      simp only [val, hl'] at h
      rw [hl'] at h1
      have hb : b = b' := by
        cases b <;> cases b' <;> simp at h ⊢ <;> omega
      subst hb
      rw [ih hl' (by omega)]
theorem bit_of {pre rest : List Bool} {b : Bool} : ((val (pre ++ b :: rest)).fdiv (2 ^ rest.length)).fmod 2 = if b then 1 else 0 := by
  have h1 := val_bound rest
  have hp := pow_pos rest.length
  have e : val (pre ++ b :: rest) = (val pre * 2 + (if b then 1 else 0)) * 2 ^ rest.length + val rest := by
    rw [val_append, List.length_cons, Int.pow_succ, val]
    cases b with
    | false => simp; rw [Int.mul_assoc, Int.mul_comm 2]
    | true => simp only [if_true]; rw [Int.add_mul, Int.one_mul, Int.mul_assoc, Int.mul_comm 2]; omega
  have e2 : (val (pre ++ b :: rest)).fdiv (2 ^ rest.length) = val pre * 2 + (if b then 1 else 0) := by
    rw [e, Int.add_comm, Int.fdiv_eq_ediv_of_nonneg _ (Int.le_of_lt hp), Int.add_mul_ediv_right _ _ (Int.ne_of_gt hp), Int.ediv_eq_zero_of_lt h1.1 h1.2]; omega
  rw [e2, Int.fmod_eq_emod_of_nonneg _ (by decide)]
  cases b <;> simp <;> omega
noncomputable def coef (t : List (Int × Int)) : Om := fun T => (lookA t (val T)).getD 0
theorem look_stor {V : Type} (t : List (Int × V)) (k i : Int) (v : V) : lookA (storA t k v) i = if i = k then some v else lookA t i := by
  unfold storA
  by_cases hk : hasK t k = true
  · rw [if_pos hk]
    unfold lookA
    by_cases e : i = k
    · subst e
      rw [if_pos rfl]
      unfold hasK at hk
      induction t with
      | nil => cases hk
      | cons p t ih =>
        simp only [List.map_cons, List.find?_cons]
        by_cases h : p.1 = i
        · simp [h]
        · simp only [h, if_false, decide_false]
          exact ih (by simpa [h] using hk)
    · rw [if_neg e]
      clear hk
      induction t with
      | nil => rfl
      | cons p t ih =>
        simp only [List.map_cons, List.find?_cons]
        by_cases h : p.1 = k
        · have : ¬ k = i := fun q => e q.symm
          simp only [h, if_true, this, decide_false]; exact ih
        · by_cases h' : p.1 = i
          · have hk : ¬ i = k := e
            simp only [h', decide_true, if_neg hk]
          · simp only [h, if_false, h', decide_false]; exact ih
  · rw [if_neg hk]
    unfold lookA
    rw [List.find?_append]
    by_cases e : i = k
    · subst e
      rw [if_pos rfl]
      have : t.find? (fun kv => decide (kv.1 = i)) = none := by
        rw [List.find?_eq_none]
        intro p hp q
        refine hk ?_
        unfold hasK
        exact List.any_eq_true.mpr ⟨p, hp, q⟩
      rw [this]; simp
    · rw [if_neg e]
      have : ¬ k = i := fun q => e q.symm
      cases t.find? (fun kv => decide (kv.1 = i)) <;> simp [this]
theorem coef_upd (t : List (Int × Int)) (k a : Int) (T : List Bool) : coef (upd t k a) T = coef t T + if val T = k then a else 0 := by
  unfold coef upd
  rw [look_stor]
  by_cases h : val T = k
  · rw [if_pos h, if_pos h, h]; rfl
  · rw [if_neg h, if_neg h]; omega
noncomputable def dlt (U : List Bool) : Om := fun S => if S = U then 1 else 0
theorem inW_coef {row : List Int} : ∀ (rest pre pT rT : List Bool) (w : Int) (t : List (Int × Int)), pT.length = pre.length → rT.length = rest.length →
    coef (inW row (val (pre ++ rest)) rest.length w t) (pT ++ rT) = coef t (pT ++ rT) + if pT = pre then w * W rest.length (fun j => (row[j]?).getD 0) (dlt rest) rT else 0 := by
  intro rest
  induction rest with
  | nil =>
    intro pre pT rT w t h1 h2
    simp only [List.length_nil, inW, W]
    split <;> simp
  | cons b rest ih =>
    intro pre pT rT w t h1 h2
    cases rT with
    | nil => simp at h2
    | cons b' rT =>
      have h2' : rT.length = rest.length := by simpa using h2
      simp only [List.length_cons, inW]
      rw [bit_of]
      have ap : ∀ c : Bool, pre ++ c :: rest = (pre ++ [c]) ++ rest := fun c => by simp
      have ap' : pT ++ b' :: rT = (pT ++ [b']) ++ rT := by simp
      have hq : ∀ c : Bool, (pT ++ [b'] = pre ++ [c]) ↔ (pT = pre ∧ b' = c) := fun c => by
        constructor
        · intro h
          have := List.append_inj h h1
          exact ⟨this.1, by simpa using this.2⟩
        · rintro ⟨rfl, rfl⟩; rfl
      cases b with
      | true =>
        rw [if_pos rfl, if_pos rfl, ap true, ap', ih (pre ++ [true]) (pT ++ [b']) rT (-w) t (by simp [h1]) h2']
        congr 1
        by_cases hp : pT = pre
        · rw [if_pos hp]
          cases b' with
          | true =>
            rw [if_pos ((hq true).mpr ⟨hp, rfl⟩)]
            simp only [W, if_true]
            have e1 : dlt (true :: rest) (false :: rT) = 0 := by simp [dlt]
            have e2 : (fun S => dlt (true :: rest) (true :: S)) = dlt rest := by funext S; simp [dlt]
            rw [e1, e2, Int.mul_zero, Int.zero_sub, Int.neg_mul, Int.mul_neg]
          | false =>
            rw [if_neg (fun h => by have := ((hq true).mp h).2; cases this)]
            simp only [W, Bool.false_eq_true, if_false]
            have e2 : (fun S => dlt (true :: rest) (false :: S)) = fun _ => 0 := by funext S; simp [dlt]
            rw [e2, W_zero, Int.mul_zero]
        · rw [if_neg hp, if_neg (fun h => hp ((hq true).mp h).1)]
      | false =>
        rw [if_neg Bool.false_ne_true, if_neg (by decide)]
        have hv : val (pre ++ false :: rest) + 2 ^ rest.length = val (pre ++ true :: rest) := by
          rw [val_append, val_append]; simp [val]; omega
        rw [hv, ap false, ap', ih (pre ++ [false]) (pT ++ [b']) rT w _ (by simp [h1]) h2', coef_upd, Int.add_assoc]
        congr 1
        have hvi : (val (pT ++ [b'] ++ rT) = val (pre ++ true :: rest)) ↔ (pT = pre ∧ b' = true ∧ rT = rest) := by
          constructor
          · intro h
            have := val_inj (by simp [h1, h2']) h
            rw [ap true] at this
            have q := List.append_inj this (by simp [h1])
            have q2 := (hq true).mp q.1
            exact ⟨q2.1, q2.2, q.2⟩
          · rintro ⟨rfl, rfl, rfl⟩; simp
        by_cases hp : pT = pre
        · rw [if_pos hp]
          cases b' with
          | true =>
            have hne : ¬ (pT ++ [true] = pre ++ [false]) := fun h => by have := ((hq false).mp h).2; cases this
            rw [if_neg hne]
            simp only [W, if_true]
            have e2 : (fun S => dlt (false :: rest) (true :: S)) = fun _ => 0 := by funext S; simp [dlt]
            rw [e2, W_zero]
            by_cases hr : rT = rest
            · rw [if_pos (hvi.mpr ⟨hp, rfl, hr⟩)]
              have e1 : dlt (false :: rest) (false :: rT) = 1 := by simp [dlt, hr]
              rw [e1]; simp
            · rw [if_neg (fun h => hr (hvi.mp h).2.2)]
              have e1 : dlt (false :: rest) (false :: rT) = 0 := by simp [dlt, hr]
              rw [e1]; simp
          | false =>
            have hn2 : ¬ (val (pT ++ [false] ++ rT) = val (pre ++ true :: rest)) := fun h => by have := (hvi.mp h).2.1; cases this
            have hp2 : pT ++ [false] = pre ++ [false] := (hq false).mpr ⟨hp, rfl⟩
            rw [if_pos hp2, if_neg hn2]
            simp only [W, Bool.false_eq_true, if_false]
            have e2 : (fun S => dlt (false :: rest) (false :: S)) = dlt rest := by funext S; simp [dlt]
            rw [e2]; omega
        · have q1 : ¬ (pT ++ [b'] = pre ++ [false]) := fun h => hp ((hq false).mp h).1
          have q2 : ¬ (val (pT ++ [b'] ++ rT) = val (pre ++ true :: rest)) := fun h => hp (hvi.mp h).1
          rw [if_neg hp, if_neg q1, if_neg q2]; rfl
end Mine
end

section
open PySem PySem.W PyProof.Rows
set_option autoImplicit false
set_option linter.unusedVariables false
namespace Mine
noncomputable def IsMask (n : Nat) (k : Int) : Prop := ∃ U : List Bool, U.length = n ∧ val U = k
structure Keys (n : Nat) (t : List (Int × Int)) : Prop where
  nd : (t.map (·.1)).Nodup
  mask : ∀ p ∈ t, IsMask n p.1
theorem Keys.nil {n : Nat} : Keys n [] := ⟨List.nodup_nil, fun _ h => by cases h⟩
theorem hasK_iff {V : Type} {t : List (Int × V)} {k : Int} : hasK t k = true ↔ k ∈ t.map (·.1) := by
  unfold hasK
  rw [List.any_eq_true, List.mem_map]
  constructor
  · rintro ⟨p, h1, h2⟩; exact ⟨p, h1, of_decide_eq_true h2⟩
  · rintro ⟨p, h1, h2⟩; exact ⟨p, h1, decide_eq_true h2⟩
theorem stor_keys {V : Type} (t : List (Int × V)) (k : Int) (v : V) : (storA t k v).map (·.1) = if hasK t k then t.map (·.1) else t.map (·.1) ++ [k] := by
  unfold storA
  split
  · rw [List.map_map]
    refine List.map_congr_left fun p _ => ?_
    simp only [Function.comp]; split <;> rfl
  · simp
theorem Keys.upd {n : Nat} {t : List (Int × Int)} (h : Keys n t) {k a : Int} (hk : IsMask n k) : Keys n (Mine.upd t k a) := by
  have e := stor_keys t k ((lookA t k).getD 0 + a)
  refine ⟨?_, fun p hp => ?_⟩
  · unfold Mine.upd
    rw [e]
    by_cases q : hasK t k = true
    · rw [if_pos q]; exact h.nd
    · rw [if_neg q]
      refine List.nodup_append.mpr ⟨h.nd, by simp, fun x hx y hy e => ?_⟩
      rw [List.mem_singleton.mp hy] at e
      exact q (hasK_iff.mpr (e ▸ hx))
  · have hm : p.1 ∈ (storA t k ((lookA t k).getD 0 + a)).map (·.1) := List.mem_map_of_mem hp
    rw [e] at hm
    have key : p.1 ∈ t.map (·.1) → IsMask n p.1 := fun q => by obtain ⟨p', h1, h2⟩ := List.mem_map.mp q; rw [← h2]; exact h.mask p' h1
    by_cases q : hasK t k = true
    · rw [if_pos q] at hm; exact key hm
    · rw [if_neg q] at hm
      rcases List.mem_append.mp hm with q | q
      · exact key q
      · rw [List.mem_singleton.mp q]; exact hk
theorem Keys.inW {row : List Int} : ∀ (rest pre : List Bool) (w : Int) (t : List (Int × Int)), Keys (pre.length + rest.length) t → Keys (pre.length + rest.length) (inW row (val (pre ++ rest)) rest.length w t) := by
  intro rest
  induction rest with
  | nil => intro pre w t h; exact h
  | cons b rest ih =>
    intro pre w t h
    simp only [List.length_cons, Mine.inW]
    rw [bit_of]
    have ap : ∀ c : Bool, pre ++ c :: rest = (pre ++ [c]) ++ rest := fun c => by simp
    have e : pre.length + (rest.length + 1) = (pre ++ [b]).length + rest.length := by simp; omega
    cases b with
    | true =>
      rw [if_pos rfl, if_pos rfl, ap true, e]
      exact ih (pre ++ [true]) (-w) t (by rw [← e]; exact h)
    | false =>
      rw [if_neg Bool.false_ne_true, if_neg (by decide)]
      have hv : val (pre ++ false :: rest) + 2 ^ rest.length = val (pre ++ true :: rest) := by rw [val_append, val_append]; simp [val]; omega
      rw [hv, ap false, e]
      exact ih (pre ++ [false]) w _ (by rw [← e]; exact h.upd ⟨pre ++ true :: rest, by simp, rfl⟩)
theorem Keys.inW' {n : Nat} {row : List Int} {used w : Int} {t : List (Int × Int)} (hu : IsMask n used) (h : Keys n t) : Keys n (Mine.inW row used n w t) := by
  obtain ⟨U, h1, h2⟩ := hu
  have := Keys.inW (row := row) U [] w t (by simpa [h1] using h)
  simpa [h1, h2] using this
theorem Keys.tail {n : Nat} {p : Int × Int} {ks : List (Int × Int)} (h : Keys n (p :: ks)) : Keys n ks := ⟨(List.nodup_cons.mp h.nd).2, fun q hq => h.mask q (List.mem_cons_of_mem _ hq)⟩
theorem Keys.outW {n : Nat} {row : List Int} : ∀ (ks t : List (Int × Int)), Keys n ks → Keys n t → Keys n (Mine.outW n row ks t)
  | [], t, _, h => h
  | p :: ks, t, hk, h => Keys.outW ks (Mine.inW row p.1 n p.2 t) hk.tail (Keys.inW' (hk.mask p List.mem_cons_self) h)
theorem outW_coef {n : Nat} {row : List Int} : ∀ (ks t : List (Int × Int)), Keys n ks → ∀ T : List Bool, T.length = n → coef (outW n row ks t) T = coef t T + W n (fun j => (row[j]?).getD 0) (coef ks) T := by
  intro ks
  induction ks with
  | nil =>
    intro t _ T _
    have : W n (fun j => (row[j]?).getD 0) (coef []) T = 0 := W_zero T
    rw [this, Int.add_zero]; rfl
  | cons p ks ih =>
    intro t hk T hT
    show coef (outW n row ks (inW row p.1 n p.2 t)) T = _
    rw [ih _ hk.tail T hT]
    obtain ⟨U, h1, h2⟩ := hk.mask p List.mem_cons_self
    have e1 := inW_coef (row := row) U [] [] T p.2 t rfl (by rw [hT, h1])
    simp only [List.nil_append, if_true, h1, h2] at e1
    rw [e1, Int.add_assoc]
    congr 1
    have e2 : EqN n (coef (p :: ks)) fun S => p.2 * dlt U S + 1 * coef ks S := by
      intro S hS
      unfold coef dlt
      by_cases q : S = U
      · subst q
        have hn : lookA ks (val S) = none := by
          unfold lookA
          rw [List.find?_eq_none.mpr]; rfl
          intro x hx e
          have := (List.nodup_cons.mp hk.nd).1
          exact this (List.mem_map.mpr ⟨x, hx, by rw [of_decide_eq_true e, h2]⟩)
        show _ = p.2 * (if S = S then 1 else 0) + 1 * (lookA ks (val S)).getD 0
        rw [hn]
        simp [lookA, h2]
      · have hne : ¬ p.1 = val S := fun e => q (val_inj (by rw [hS, h1]) (by rw [h2, e]))
        simp [lookA, q, hne]
    rw [W_congr (fun _ _ => rfl) e2 T hT, W_lin]; omega
/-- all of the rows -/
noncomputable def rowsW (n : Nat) (rows : List (List Int)) (ks : List (Int × Int)) : List (Int × Int) := rows.foldl (fun ks row => outW n row ks []) ks
theorem Keys.rowsW {n : Nat} : ∀ (rows : List (List Int)) (ks : List (Int × Int)), Keys n ks → Keys n (Mine.rowsW n rows ks)
  | [], _, h => h
  | row :: rows, ks, h => Keys.rowsW rows _ (Keys.outW ks [] h .nil)
theorem rowsW_coef {n : Nat} : ∀ (rows : List (List Int)) (ks : List (Int × Int)), Keys n ks → EqN n (coef (rowsW n rows ks)) (prodW n (rows.map fun row j => (row[j]?).getD 0) (coef ks)) := by
  intro rows
  induction rows with
  | nil => intro ks _ T _; rfl
  | cons row rows ih =>
    intro ks hk T hT
    show coef (rowsW n rows (outW n row ks [])) T = _
    rw [ih _ (Keys.outW ks [] hk .nil) T hT, List.map_cons, prodW_cons]
    refine prodW_congr (fun S hS => ?_) T hT
    rw [outW_coef ks [] hk S hS]
    have : coef [] S = 0 := rfl
    omega
end Mine
end

section
open PySem PySem.W PyProof.Rows
set_option autoImplicit false
set_option linter.unusedVariables false
namespace Mine
theorem pigeon : ∀ (m : Nat) (l : List Nat), l.Nodup → (∀ x ∈ l, x < m) → l.length ≤ m := by
  intro m
  induction m with
  | zero =>
    intro l _ h
    cases l with
    | nil => exact Nat.le_refl _
    | cons x l => exact absurd (h x List.mem_cons_self) (Nat.not_lt_zero _)
  | succ m ih =>
    intro l hn h
    by_cases q : m ∈ l
    · have h1 := ih (l.erase m) (hn.erase m) (fun x hx => by
        have h2 := (hn.mem_erase_iff).mp hx
        have := h x h2.2
        omega)
      rw [List.length_erase_of_mem q] at h1
      omega
    · have := ih l hn (fun x hx => by
        have := h x hx
        have : x ≠ m := fun e => q (e ▸ hx)
        omega)
      omega
theorem Keys.length {n : Nat} {t : List (Int × Int)} (h : Keys n t) : t.length ≤ 2 ^ n := by
  have h1 : ((t.map (·.1)).map Int.toNat).Nodup := by
    have : ∀ l : List Int, l.Nodup → (∀ x ∈ l, 0 ≤ x) → (l.map Int.toNat).Nodup := by
      intro l
      induction l with
      | nil => intro _ _; exact List.nodup_nil
      | cons x l ih =>
        intro hn hp
        rw [List.map_cons]
        refine List.nodup_cons.mpr ⟨fun hm => ?_, ih (List.nodup_cons.mp hn).2 fun y hy => hp y (List.mem_cons_of_mem _ hy)⟩
        obtain ⟨y, hy, e⟩ := List.mem_map.mp hm
        have a := hp x List.mem_cons_self
        have b := hp y (List.mem_cons_of_mem _ hy)
        have : y = x := by omega
        exact (List.nodup_cons.mp hn).1 (this ▸ hy)
    refine this _ h.nd fun x hx => ?_
    obtain ⟨p, hp, e⟩ := List.mem_map.mp hx
    obtain ⟨U, h1, h2⟩ := h.mask p hp
    rw [← e, ← h2]; exact (val_bound U).1
  have h2 := pigeon (2 ^ n) _ h1 (fun x hx => by
    obtain ⟨y, hy, e⟩ := List.mem_map.mp hx
    obtain ⟨p, hp, e'⟩ := List.mem_map.mp hy
    obtain ⟨U, a1, a2⟩ := h.mask p hp
    have b := val_bound U
    rw [a1, a2, e'] at b
    have : ((2 ^ n : Nat) : Int) = (2 : Int) ^ n := by simp
    omega)
  simpa using h2
/-! the keys that are there -/
theorem has_upd {t : List (Int × Int)} {k a i : Int} : hasK (upd t k a) i = true ↔ (hasK t i = true ∨ i = k) := by
  rw [hasK_iff, hasK_iff]
  unfold upd
  rw [stor_keys]
  by_cases q : hasK t k = true
  · rw [if_pos q]
    exact ⟨.inl, fun h => h.elim id fun e => by rw [e]; exact hasK_iff.mp q⟩
  · rw [if_neg q]; simp
theorem inW_mono {row : List Int} {used k : Int} : ∀ (c : Nat) (w : Int) (t : List (Int × Int)), hasK t k = true → hasK (inW row used c w t) k = true
  | 0, _, _, h => h
  | c + 1, w, t, h => by
    unfold inW
    split
    · exact inW_mono c _ _ h
    · exact inW_mono c _ _ (has_upd.mpr (.inl h))
theorem inW_adds {row : List Int} {used : Int} {j : Nat} (hj : ¬ (used.fdiv (2 ^ j)).fmod 2 = 1) : ∀ (c : Nat) (w : Int) (t : List (Int × Int)), j < c → hasK (inW row used c w t) (used + 2 ^ j) = true
  | 0, _, _, h => absurd h (Nat.not_lt_zero _)
  | c + 1, w, t, h => by
    unfold inW
    by_cases q : j = c
    · subst q
      rw [if_neg hj]
      exact inW_mono j _ _ (has_upd.mpr (.inr rfl))
    · split
      · exact inW_adds hj c _ _ (by omega)
      · exact inW_adds hj c _ _ (by omega)
theorem outW_mono {n : Nat} {row : List Int} {k : Int} : ∀ (ks t : List (Int × Int)), hasK t k = true → hasK (outW n row ks t) k = true
  | [], _, h => h
  | p :: ks, t, h => outW_mono ks _ (inW_mono n _ _ h)
theorem outW_adds {n : Nat} {row : List Int} {used : Int} {j : Nat} (hj : ¬ (used.fdiv (2 ^ j)).fmod 2 = 1) (hjn : j < n) : ∀ (ks t : List (Int × Int)), hasK ks used = true → hasK (outW n row ks t) (used + 2 ^ j) = true
  | [], _, h => by cases h
  | p :: ks, t, h => by
    by_cases q : p.1 = used
    · refine outW_mono ks _ ?_
      show hasK (inW row p.1 n p.2 t) _ = true
      rw [q]
      exact inW_adds hj n _ _ hjn
    · refine outW_adds hj hjn ks _ ?_
      unfold hasK at h ⊢
      simpa [q] using h
theorem low_bit (i : Nat) : ¬ (((2 : Int) ^ i - 1).fdiv (2 ^ i)).fmod 2 = 1 := by
  have := pow_pos i
  rw [Int.fdiv_eq_ediv_of_nonneg _ (Int.le_of_lt this), Int.ediv_eq_zero_of_lt (by omega) (by omega)]
  decide
theorem rowsW_has {n : Nat} : ∀ (rows : List (List Int)) (i : Nat) (ks : List (Int × Int)), i + rows.length ≤ n → hasK ks ((2 : Int) ^ i - 1) = true → hasK (rowsW n rows ks) ((2 : Int) ^ (i + rows.length) - 1) = true
  | [], i, ks, _, h => h
  | row :: rows, i, ks, hl, h => by
    have hin : i < n := by simp at hl; omega
    have h1 := outW_adds (n := n) (row := row) (low_bit i) hin ks [] h
    have e : (2 : Int) ^ i - 1 + 2 ^ i = 2 ^ (i + 1) - 1 := by rw [Int.pow_succ]; omega
    rw [e] at h1
    have := rowsW_has (n := n) rows (i + 1) (outW n row ks []) (by simp at hl; omega) h1
    show hasK (rowsW n rows (outW n row ks [])) _ = true
    simpa [Nat.add_assoc, Nat.add_comm 1] using this
theorem full_val (n : Nat) : val (List.replicate n true) = 2 ^ n - 1 := by
  induction n with
  | zero => rfl
  | succ n ih => rw [List.replicate_succ, val, ih, Int.pow_succ]; simp; omega
theorem coef_start (n : Nat) : EqN n (coef [(0, 1)]) delta0 := by
  intro T hT
  have h0 : val (List.replicate n false) = 0 := by
    induction n generalizing T with
    | zero => rfl
    | succ n ih => rw [List.replicate_succ, val, ih (List.replicate n false) (by simp)]; rfl
  unfold coef delta0 lookA
  by_cases q : T.all (fun b => !b) = true
  · have : T = List.replicate n false := by
      refine List.eq_replicate_iff.mpr ⟨hT, fun b hb => ?_⟩
      have := List.all_eq_true.mp q b hb
      simpa using this
    rw [if_pos q, this, h0]; rfl
  · rw [if_neg q]
    have : ¬ (0 : Int) = val T := fun e => q (by
      have : T = List.replicate n false := val_inj (by simp [hT]) (by rw [h0, ← e])
      rw [this]; simp)
    simp [this]
theorem keys_start (n : Nat) : Keys n [(0, 1)] := ⟨by simp, fun p hp => by
  rw [List.mem_singleton.mp hp]
  refine ⟨List.replicate n false, by simp, ?_⟩
  induction n with
  | zero => rfl
  | succ n ih => rw [List.replicate_succ, val, ih]; rfl⟩
/-- what stands at the full mask -/
theorem rowsW_full {n : Nat} {rows : List (List Int)} (h : rows.length = n) :
    lookA (rowsW n rows [(0, 1)]) (2 ^ n - 1) = some (prodW n (rows.map fun row j => (row[j]?).getD 0) delta0 (List.replicate n true)) := by
  have h1 := rowsW_has (n := n) rows 0 [(0, 1)] (by omega) (by rfl)
  rw [Nat.zero_add, h] at h1
  have hk := Keys.rowsW rows [(0, 1)] (keys_start n)
  have hl : (List.replicate n true).length = n := by simp
  have h2 := rowsW_coef rows [(0, 1)] (keys_start n) _ hl
  rw [prodW_congr (coef_start n) _ hl] at h2
  rw [← h2]
  unfold coef
  rw [full_val]
  obtain ⟨p, hp, e⟩ := List.mem_map.mp (hasK_iff.mp h1)
  have := look_mem hk.nd hp
  rw [e] at this
  rw [this]; rfl
end Mine
end

section
open PySem PySem.W PyProof.Rows
set_option autoImplicit false
set_option linter.unusedVariables false
namespace Mine
/-! reduce, run -/
theorem ev_callV {f : Addr} {df : M AVal} {dargs : M (List AVal)} {D : List AVal → List AObj → Option (AVal × List AObj)} {σ σ₁ σ₂ : St} {vs : List AVal} {v : AVal} {H' : List AObj} (h : df σ = some (.stat (.ref f), σ₁)) (h1 : dargs σ₁ = some (vs, σ₂)) (h2 : D vs σ₂.H = some (v, H')) :
    callV f df dargs D σ = some (v, ⟨σ₂.lo, H'⟩) := by
  unfold callV
  rw [ev_bind h]
  dsimp only
  rw [if_pos rfl, ev_bind h1]
  unfold onH; rw [h2]; rfl
theorem red_run {f : Addr} {D : List AVal → List AObj → Option (AVal × List AObj)} {l it : Nat} {vs : List AVal} (hil : it ≠ l) (Inv : Nat → AVal → List AObj → Prop)
    (hstep : ∀ j v e H, Inv j v H → vs[j]? = some e → H[l]? = some (.list vs) → H[it]? = some (.iter l j) → ∃ v' H', D [v, e] (H.set it (.iter l (j + 1))) = some (v', H') ∧ Inv (j + 1) v' H' ∧ H'[l]? = some (.list vs) ∧ H'[it]? = some (.iter l (j + 1))) :
    ∀ (c j fuel : Nat) (lo : Lo) (H : List AObj) (v : AVal), j + c = vs.length → c < fuel → Inv j v H → H[l]? = some (.list vs) → H[it]? = some (.iter l j) → lo "function" = some (.stat (.ref f)) → lo "value" = some v →
    ∃ lo' H' v', dLoopIt it (setV "element") (dRedB f D) fuel ⟨lo, H⟩ = some (.next, ⟨lo', H'.set it .dead⟩) ∧ Inv vs.length v' H' ∧ lo' "value" = some v' := by
  intro c
  induction c with
  | zero =>
    intro j fuel lo H v hj hf hI hl hi h1 h2
    obtain ⟨m, rfl⟩ : ∃ m, fuel = m + 1 := ⟨fuel - 1, by omega⟩
    refine ⟨lo, H, v, ?_, by have : j = vs.length := by omega
                             subst this; exact hI, h2⟩
    unfold dLoopIt
    rw [ev_bind (ev_getO hi)]; dsimp only
    rw [ev_bind (ev_getO hl)]; dsimp only
    rw [List.getElem?_eq_none (by omega)]; dsimp only
    rw [ev_bind ev_setO]; rfl
  | succ c ih =>
    intro j fuel lo H v hj hf hI hl hi h1 h2
    obtain ⟨m, rfl⟩ : ∃ m, fuel = m + 1 := ⟨fuel - 1, by omega⟩
    have hlt : j < vs.length := by omega
    obtain ⟨v', H', e1, e2, e3, e4⟩ := hstep j v vs[j] H hI (List.getElem?_eq_getElem hlt) hl hi
    have hb : dRedB f D ⟨put lo "element" vs[j], H.set it (.iter l (j + 1))⟩ = some (.next, ⟨put (put lo "element" vs[j]) "value" v', H'⟩) := by
      unfold dRedB
      refine ev_asg (σ₁ := ⟨put lo "element" vs[j], H'⟩) ?_
      exact ev_callV (ev_getV (show put lo "element" vs[j] "function" = _ from (put_other (by decide)).trans h1)) (ev_ac (ev_getV (show put lo "element" vs[j] "value" = _ from (put_other (by decide)).trans h2)) (ev_ac (ev_getV (show put lo "element" vs[j] "element" = _ from put_same)) ev_a0)) e1
    obtain ⟨lo', H'', v'', a1, a2, a3⟩ := ih (j + 1) m (put (put lo "element" vs[j]) "value" v') H' v' (by omega) (by omega) e2 e3 e4 ((put_other (by decide)).trans ((put_other (by decide)).trans h1)) put_same
    refine ⟨lo', H'', v'', ?_, a2, a3⟩
    rw [← a1]
    conv => lhs; unfold dLoopIt
    rw [ev_bind (ev_getO hi)]; dsimp only
    rw [ev_bind (ev_getO hl)]; dsimp only
    rw [List.getElem?_eq_getElem hlt]; dsimp only
    rw [ev_bind ev_setO, ev_bind ev_setV, ev_bind hb]
end Mine
end

section
open PySem PySem.W PyProof.Rows
set_option autoImplicit false
set_option linter.unusedVariables false
namespace Mine
theorem ev_iterD {l : Nat} {vs : List AVal} {σ : St} (h : σ.H[l]? = some (.list vs)) : iterD [.ref l] σ = some (.ref σ.H.length, ⟨σ.lo, σ.H ++ [.iter l 0]⟩) := by
  unfold iterD; dsimp only
  have e : asList (.ref l) σ = some ((l, vs), σ) := by unfold asList; dsimp only; rw [ev_bind (ev_getO h)]; rfl
  rw [ev_bind e]; rfl
theorem ev_asIter {i l j : Nat} {σ : St} (h : σ.H[i]? = some (.iter l j)) : asIter (.ref i) σ = some (i, σ) := by
  unfold asIter; dsimp only; rw [ev_bind (ev_getO h)]; rfl
/-- reduce(f, xs, init) -/
theorem red3 {f : Addr} {D : List AVal → List AObj → Option (AVal × List AObj)} {l : Nat} {vs : List AVal} {init : AVal} {H : List AObj} (hl : H[l]? = some (.list vs)) (hn : vs.length < 1000) (Inv : Nat → AVal → List AObj → Prop)
    (h0 : Inv 0 init (H ++ [.iter l 0])) (hin : ∀ lo, isStat 22 init (.stat (.ref 22)) ⟨lo, H ++ [.iter l 0]⟩ = some (false, ⟨lo, H ++ [.iter l 0]⟩))
    (hstep : ∀ j v e G, Inv j v G → vs[j]? = some e → G[l]? = some (.list vs) → G[H.length]? = some (.iter l j) → ∃ v' G', D [v, e] (G.set H.length (.iter l (j + 1))) = some (v', G') ∧ Inv (j + 1) v' G' ∧ G'[l]? = some (.list vs) ∧ G'[H.length]? = some (.iter l (j + 1))) :
    ∃ v' H', fRed f D [.stat (.ref f), .ref l, init] H = some (v', H'.set H.length .dead) ∧ Inv vs.length v' H' := by
  have hll := (List.getElem?_eq_some_iff.mp hl).1
  let lo0 : Lo := put (put (put (fun _ => none) "function" (.stat (.ref f))) "sequence" (.ref l)) "initial" init
  let lo1 := put lo0 "it" (.ref H.length)
  let lo2 := put lo1 "value" init
  let H1 := H ++ [AObj.iter l 0]
  have a1 : lo0 "sequence" = some (.ref l) := (put_other (by decide)).trans put_same
  have a2 : lo0 "initial" = some init := put_same
  have a3 : lo0 "function" = some (.stat (.ref f)) := (put_other (by decide)).trans ((put_other (by decide)).trans put_same)
  have hl1 : H1[l]? = some (.list vs) := by rw [List.getElem?_append_left hll]; exact hl
  have hi1 : H1[H.length]? = some (.iter l 0) := by rw [List.getElem?_append_right (Nat.le_refl _)]; simp
  obtain ⟨lo', H', v', e1, e2, e3⟩ := red_run (f := f) (D := D) (l := l) (it := H.length) (vs := vs) (by omega) Inv hstep vs.length 0 1000 lo2 H1 init (by omega) hn h0 hl1 hi1
    ((put_other (by decide)).trans ((put_other (by decide)).trans a3)) put_same
  refine ⟨v', H', ?_, e2⟩
  have hrun : dReduce f D ⟨lo0, H⟩ = some (.ret v', ⟨lo', H'.set H.length .dead⟩) := by
    unfold dReduce
    have hit : fnc iterD (ac (getV "sequence") a0) ⟨lo0, H⟩ = some (.ref H.length, ⟨lo0, H1⟩) := by
      rw [ev_fnc (ev_ac (ev_getV a1) ev_a0)]; exact ev_iterD hl
    rw [ev_seq (ev_asg hit)]
    rw [ev_seq (σ₁ := ⟨lo2, H1⟩) ?_]
    · rw [ev_seq (σ₁ := ⟨lo', H'.set H.length .dead⟩) ?_]
      · exact ev_rets (ev_getV e3)
      · rw [ev_bind (ev_getV (show lo2 "it" = some (.ref H.length) from (put_other (by decide)).trans put_same)), ev_bind (ev_asIter hi1)]
        exact e1
    · rw [ev_ifF (σ₁ := ⟨lo1, H1⟩) ?_]
      · exact ev_asg (ev_getV (show lo1 "initial" = some init from (put_other (by decide)).trans a2))
      · rw [ev_cmp (ev_getV (show lo1 "initial" = some init from (put_other (by decide)).trans a2)) rfl]
        exact hin lo1
  unfold fRed runF bdR
  simp only [Option.bind_some]
  show (dReduce f D ⟨lo0, H⟩).bind _ = _
  rw [hrun]; rfl
end Mine
end

section
open PySem PySem.W PyProof.Rows
set_option autoImplicit false
set_option linter.unusedVariables false
namespace Mine
/-- reduce(sub, ints, init) -/
theorem red_sub {l : Nat} {ns : List Int} {a : Int} {H : List AObj} (hl : H[l]? = some (.list (ns.map .int))) (hn : ns.length < 1000) :
    ∃ H', fRed 171 fSubF [.stat (.ref 171), .ref l, .int a] H = some (.int (ns.foldl (· - ·) a), H') ∧ H.length ≤ H'.length ∧ ∀ i, i < H.length → H'[i]? = H[i]? := by
  have hll := (List.getElem?_eq_some_iff.mp hl).1
  obtain ⟨v', H', e1, e2⟩ := red3 (f := 171) (D := fSubF) (init := .int a) hl (by simpa using hn)
    (fun j v G => v = .int ((ns.take j).foldl (· - ·) a) ∧ H.length + 1 ≤ G.length ∧ ∀ i, i < H.length → G[i]? = H[i]?)
    ⟨rfl, by simp, fun i hi => List.getElem?_append_left hi⟩ (fun lo => rfl) (by
      rintro j v e G ⟨rfl, g1, g2⟩ he gl gi
      have hj : j < ns.length := by
        have := (List.getElem?_eq_some_iff.mp he).1
        simpa using this
      have he' : e = .int ns[j] := by
        rw [List.getElem?_map, List.getElem?_eq_getElem hj] at he
        exact (Option.some.inj he).symm
      subst he'
      refine ⟨.int ((ns.take j).foldl (· - ·) a - ns[j]), G.set H.length (.iter l (j + 1)), rfl, ⟨?_, by simpa using g1, fun i hi => ?_⟩, ?_, ?_⟩
      · rw [List.take_succ_eq_append_getElem hj, List.foldl_append]; rfl
      · rw [List.getElem?_set_ne (by omega)]; exact g2 i hi
      · rw [List.getElem?_set_ne (by omega)]; exact gl
      · exact set_get gi)
  obtain ⟨rfl, g1, g2⟩ := e2
  refine ⟨H'.set H.length .dead, ?_, by simp; omega, fun i hi => ?_⟩
  · rw [e1]; simp
  · rw [List.getElem?_set_ne (by omega)]; exact g2 i hi
end Mine
end

section
open PySem PySem.W PyProof.Rows
set_option autoImplicit false
set_option linter.unusedVariables false
namespace Mine
theorem rowsW_snoc {n : Nat} {rows : List (List Int)} {row : List Int} {ks : List (Int × Int)} : rowsW n (rows ++ [row]) ks = outW n row (rowsW n rows ks) [] := by
  unfold rowsW; rw [List.foldl_append]; rfl
/-- reduce(_law_wedge, rows, {0: 1}) -/
theorem red_wedge {n l d0 ep0 : Nat} {rs : List Nat} {rows : List (List Int)} {H : List AObj} (hn : n ≤ 6) (hlen : rs.length = rows.length) (hsm : rows.length < 1000) (hl : H[l]? = some (.list (rs.map .ref))) (hd : H[d0]? = some (.dict ep0 (IV [(0, 1)])))
    (hr : ∀ i, i < rows.length → ∃ r row, rs[i]? = some r ∧ rows[i]? = some row ∧ H[r]? = some (.list (row.map .int)) ∧ row.length = n ∧ ∀ x ∈ row, x.natAbs < 2 ^ 63) :
    ∃ H' d ep, fRed 190 fWedF [.stat (.ref 190), .ref l, .ref d0] H = some (.ref d, H') ∧ H'[d]? = some (.dict ep (IV (rowsW n rows [(0, 1)]))) ∧ H.length ≤ H'.length ∧ ∀ i, i < H.length → H'[i]? = H[i]? := by
  have hll := (List.getElem?_eq_some_iff.mp hl).1
  have hdl := (List.getElem?_eq_some_iff.mp hd).1
  obtain ⟨v', H', e1, e2⟩ := red3 (f := 190) (D := fWedF) (init := .ref d0) hl (by simp; omega)
    (fun j v G => ∃ d ep, v = .ref d ∧ d ≠ H.length ∧ G[d]? = some (.dict ep (IV (rowsW n (rows.take j) [(0, 1)]))) ∧ H.length + 1 ≤ G.length ∧ ∀ i, i < H.length → G[i]? = H[i]?)
    ⟨d0, ep0, rfl, by omega, by rw [List.getElem?_append_left hdl]; exact hd, by simp, fun i hi => List.getElem?_append_left hi⟩
    (fun lo => by
      unfold isStat; dsimp only
      rw [if_pos rfl]
      rw [ev_bind (ev_getO (show (H ++ [AObj.iter l 0])[d0]? = _ by rw [List.getElem?_append_left hdl]; exact hd))]; rfl) (by
      rintro j v e G ⟨d, ep, rfl, gd, g0, g1, g2⟩ he gl gi
      have hj : j < rows.length := by
        have := (List.getElem?_eq_some_iff.mp he).1
        simp at this; omega
      obtain ⟨r, row, b1, b2, b3, b4, b5⟩ := hr j hj
      have he' : e = .ref r := by
        rw [List.getElem?_map, b1] at he
        exact (Option.some.inj he).symm
      subst he'
      have hrl := (List.getElem?_eq_some_iff.mp b3).1
      have hk := Keys.rowsW (n := n) (rows.take j) [(0, 1)] (keys_start n)
      have hkl : (rowsW n (rows.take j) [(0, 1)]).length ≤ 100 := by
        have := hk.length
        have h64 : 2 ^ n ≤ 2 ^ 6 := Nat.pow_le_pow_right (by decide) hn
        omega
      obtain ⟨G', ep', c1, c2, c3, c4⟩ := wedge_run (H := G.set H.length (.iter l (j + 1))) (f := d) (r := r) hn b4 b5 hk.nd hkl (set_ne g0 (Ne.symm gd)) (by rw [List.getElem?_set_ne (by omega), g2 r hrl]; exact b3)
      rw [List.length_set] at c1 c2 c4
      have hrow : row = rows[j] := by rw [List.getElem?_eq_getElem hj] at b2; exact (Option.some.inj b2).symm
      refine ⟨.ref G.length, G', c1, ⟨G.length, ep', rfl, by omega, ?_, by omega, fun i hi => ?_⟩, ?_, ?_⟩
      · rw [List.take_succ_eq_append_getElem hj, rowsW_snoc, ← hrow]; exact c4
      · rw [c3 i (by rw [List.length_set]; omega), List.getElem?_set_ne (by omega)]; exact g2 i hi
      · rw [c3 l (by rw [List.length_set]; omega), List.getElem?_set_ne (by omega)]; exact gl
      · rw [c3 H.length (by rw [List.length_set]; omega)]; exact set_get gi)
  obtain ⟨d, ep, rfl, gd, g0, g1, g2⟩ := e2
  refine ⟨H'.set H.length .dead, d, ep, e1, ?_, by simp; omega, fun i hi => ?_⟩
  · rw [List.getElem?_set_ne (Ne.symm gd), g0]
    simp [hlen]
  · rw [List.getElem?_set_ne (by omega)]; exact g2 i hi
end Mine
end

section
open PySem PySem.W PyProof.Rows
set_option autoImplicit false
set_option linter.unusedVariables false
namespace Mine
theorem ev_nextD {i l j : Nat} {vs : List AVal} {v : AVal} {σ : St} (h : σ.H[i]? = some (.iter l j)) (hl : σ.H[l]? = some (.list vs)) (hv : vs[j]? = some v) : nextD [.ref i] σ = some (v, ⟨σ.lo, σ.H.set i (.iter l (j + 1))⟩) := by
  unfold nextD; dsimp only
  rw [ev_bind (ev_getO h)]; dsimp only
  rw [ev_bind (ev_getO hl)]; dsimp only
  rw [hv]; rfl
/-- reduce(mul, ints) -/
theorem red_mul {l : Nat} {m : Int} {ns : List Int} {H : List AObj} (hl : H[l]? = some (.list ((m :: ns).map .int))) (hn : ns.length < 900) (hb : ∀ x ∈ ns, x.natAbs < 2 ^ 63) :
    ∃ H', fRed 164 fMulF [.stat (.ref 164), .ref l] H = some (.int (ns.foldl (· * ·) m), H') := by
  have hll := (List.getElem?_eq_some_iff.mp hl).1
  let lo0 : Lo := put (put (put (fun _ => none) "function" (.stat (.ref 164))) "sequence" (.ref l)) "initial" (.stat (.ref 22))
  let lo1 := put lo0 "it" (.ref H.length)
  let lo2 := put lo1 "value" (.int m)
  let H1 := H ++ [AObj.iter l 0]
  let H2 := H1.set H.length (.iter l 1)
  have a1 : lo0 "sequence" = some (.ref l) := (put_other (by decide)).trans put_same
  have a2 : lo1 "initial" = some (.stat (.ref 22)) := (put_other (by decide)).trans put_same
  have a3 : lo2 "function" = some (.stat (.ref 164)) := (put_other (by decide)).trans ((put_other (by decide)).trans ((put_other (by decide)).trans ((put_other (by decide)).trans put_same)))
  have hl1 : H1[l]? = some (.list ((m :: ns).map .int)) := by rw [List.getElem?_append_left hll]; exact hl
  have hi1 : H1[H.length]? = some (.iter l 0) := by rw [List.getElem?_append_right (Nat.le_refl _)]; simp
  have hl2 : H2[l]? = some (.list ((m :: ns).map .int)) := by rw [List.getElem?_set_ne (by omega)]; exact hl1
  have hi2 : H2[H.length]? = some (.iter l 1) := set_get hi1
  obtain ⟨lo', H', v', e1, e2, e3⟩ := red_run (f := 164) (D := fMulF) (l := l) (it := H.length) (vs := (m :: ns).map .int) (by omega)
    (fun j v G => v = .int ((ns.take (j - 1)).foldl (· * ·) m) ∧ 1 ≤ j) (by
      rintro j v e G ⟨rfl, g1⟩ he gl gi
      obtain ⟨j, rfl⟩ : ∃ k, j = k + 1 := ⟨j - 1, by omega⟩
      have hj : j < ns.length := by
        have := (List.getElem?_eq_some_iff.mp he).1
        simp at this; omega
      have he' : e = .int ns[j] := by
        rw [List.map_cons, List.getElem?_cons_succ, List.getElem?_map, List.getElem?_eq_getElem hj] at he
        exact (Option.some.inj he).symm
      subst he'
      have hbj := hb ns[j] (List.getElem_mem hj)
      refine ⟨.int ((ns.take j).foldl (· * ·) m * ns[j]), G.set H.length (.iter l (j + 1 + 1)), ?_, ⟨?_, by omega⟩, ?_, ?_⟩
      · unfold fMulF runF bd2
        simp only [Option.bind_some]
        have : dMul ⟨put (put (fun _ => none) "a" (.int ((ns.take j).foldl (· * ·) m))) "b" (.int ns[j]), G.set H.length (.iter l (j + 1 + 1))⟩ = some (.ret (.int ((ns.take j).foldl (· * ·) m * ns[j])), ⟨put (put (fun _ => none) "a" (.int ((ns.take j).foldl (· * ·) m))) "b" (.int ns[j]), G.set H.length (.iter l (j + 1 + 1))⟩) := by
          unfold dMul
          refine ev_rets ?_
          rw [ev_bin (ev_getV (show put (put (fun _ => none) "a" (.int ((ns.take j).foldl (· * ·) m))) "b" (.int ns[j]) "a" = _ from (put_other (by decide)).trans put_same)) (ev_getV (show put (put (fun _ => none) "a" (.int ((ns.take j).foldl (· * ·) m))) "b" (.int ns[j]) "b" = _ from put_same))]
          exact ev_ints (by unfold fMul; rw [if_pos hbj])
        show (dMul ⟨put (put (fun _ => none) "a" (.int ((ns.take j).foldl (· * ·) m))) "b" (.int ns[j]), G.set H.length (.iter l (j + 1 + 1))⟩).bind _ = _
        rw [this]; rfl
      · show _ = AVal.int ((ns.take (j + 1)).foldl (· * ·) m)
        rw [List.take_succ_eq_append_getElem hj, List.foldl_append]; rfl
      · rw [List.getElem?_set_ne (by omega)]; exact gl
      · exact set_get gi) ns.length 1 1000 lo2 H2 (.int m) (by simp; omega) (by omega) ⟨rfl, Nat.le_refl _⟩ hl2 hi2 a3 put_same
  refine ⟨H'.set H.length .dead, ?_⟩
  have hit : fnc iterD (ac (getV "sequence") a0) ⟨lo0, H⟩ = some (.ref H.length, ⟨lo0, H1⟩) := by
    rw [ev_fnc (ev_ac (ev_getV a1) ev_a0)]; exact ev_iterD hl
  have hv' : v' = .int (ns.foldl (· * ·) m) := by
    have := e2.1
    simpa using this
  have hrun : dReduce 164 fMulF ⟨lo0, H⟩ = some (.ret v', ⟨lo', H'.set H.length .dead⟩) := by
    unfold dReduce
    rw [ev_seq (ev_asg hit)]
    have hnext : fnc nextD (ac (getV "it") a0) ⟨lo1, H1⟩ = some (.int m, ⟨lo1, H2⟩) := by
      rw [ev_fnc (ev_ac (ev_getV (show lo1 "it" = some (.ref H.length) from put_same)) ev_a0)]
      exact ev_nextD hi1 hl1 rfl
    have hif : ifs (cmp (isStat 22) (getV "initial") (pure (.stat (.ref 22)))) (asg "value" (fnc nextD (ac (getV "it") a0))) (asg "value" (getV "initial")) ⟨lo1, H1⟩ = some (.next, ⟨lo2, H2⟩) := by
      rw [ev_ifT (σ₁ := ⟨lo1, H1⟩) (by rw [ev_cmp (ev_getV a2) rfl]; rfl)]
      exact ev_asg hnext
    rw [ev_seq hif]
    rw [ev_seq (σ₁ := ⟨lo', H'.set H.length .dead⟩) ?_]
    · exact ev_rets (ev_getV e3)
    · rw [ev_bind (ev_getV (show lo2 "it" = some (.ref H.length) from (put_other (by decide)).trans put_same)), ev_bind (ev_asIter hi2)]
      exact e1
  unfold fRed runF bdR
  simp only [Option.bind_some]
  show (dReduce 164 fMulF ⟨lo0, H⟩).bind _ = _
  rw [hrun, hv']; rfl
end Mine
end

section
open PySem PySem.W PyProof.Rows
set_option autoImplicit false
set_option linter.unusedVariables false
namespace Mine
/-! a comprehension over a list, run -/
theorem put_put {lo : Lo} {x : Str} {a b : AVal} : put (put lo x a) x b = put lo x b := by
  funext y; unfold put; by_cases h : y = x <;> simp [h]
theorem ev_push {i : Nat} {v : AVal} {vs : List AVal} {σ : St} (h : σ.H[i]? = some (.list vs)) (hl : vs.length ≤ 1000) : push i v σ = some ((), ⟨σ.lo, σ.H.set i (.list (vs ++ [v]))⟩) := by
  unfold push; rw [ev_bind (ev_getO h)]; dsimp only; rw [if_pos hl]; rfl
theorem compL_run {l m : Nat} {x : Str} {vs : List AVal} {dt : M Bool} {de : M AVal} {lo : Lo} (F : AVal → Option AVal) (Ok : List AObj → Prop) (hlm : m ≠ l) (hset : ∀ H o, Ok H → Ok (H.set m o))
    (hd : ∀ v ∈ vs, ∀ H, Ok H → dt ⟨put lo x v, H⟩ = some ((F v).isSome, ⟨put lo x v, H⟩) ∧ ∀ y, F v = some y → de ⟨put lo x v, H⟩ = some (y, ⟨put lo x v, H⟩)) :
    ∀ (c j fuel : Nat) (lo1 : Lo) (H : List AObj) (acc : List AVal), j + c = vs.length → c < fuel → (∀ v, put lo1 x v = put lo x v) → Ok H → H[l]? = some (.list vs) → H[m]? = some (.list acc) → acc.length + c ≤ 1000 →
    ∃ lo2, dCompL (nxList l) x dt de m fuel j ⟨lo1, H⟩ = some ((), ⟨lo2, H.set m (.list (acc ++ (vs.drop j).filterMap F))⟩) := by
  intro c
  induction c with
  | zero =>
    intro j fuel lo1 H acc hj hf hp hO hl hm ha
    obtain ⟨k, rfl⟩ : ∃ k, fuel = k + 1 := ⟨fuel - 1, by omega⟩
    refine ⟨lo1, ?_⟩
    unfold dCompL
    have hnx : nxList l j H = some none := by unfold nxList; rw [hl]; dsimp only; rw [List.getElem?_eq_none (by omega)]
    simp only [hnx]
    rw [List.drop_eq_nil_of_le (by omega)]
    have : H.set m (.list (acc ++ ([] : List AVal).filterMap F)) = H := by
      refine List.ext_getElem? fun k => ?_
      by_cases q : k = m
      · subst q; rw [set_get hm, hm]; simp
      · rw [List.getElem?_set_ne (Ne.symm q)]
    rw [this]
  | succ c ih =>
    intro j fuel lo1 H acc hj hf hp hO hl hm ha
    obtain ⟨k, rfl⟩ : ∃ k, fuel = k + 1 := ⟨fuel - 1, by omega⟩
    have hlt : j < vs.length := by omega
    have hnx : nxList l j H = some (some vs[j]) := by unfold nxList; rw [hl]; dsimp only; rw [List.getElem?_eq_getElem hlt]
    obtain ⟨h1, h2⟩ := hd vs[j] (List.getElem_mem hlt) H hO
    have hpp : ∀ v, put (put lo x vs[j]) x v = put lo x v := fun v => put_put
    rw [List.drop_eq_getElem_cons hlt, List.filterMap_cons]
    conv => enter [1, lo2, 1]; unfold dCompL
    simp only [hnx]
    rw [ev_bind ev_setV]
    show ∃ lo2, (dt >>= _) ⟨put lo1 x vs[j], H⟩ = _
    rw [hp vs[j], ev_bind h1]
    cases hF : F vs[j] with
    | none =>
      rw [hF] at h1
      obtain ⟨lo2, e⟩ := ih (j + 1) k (put lo x vs[j]) H acc (by omega) (by omega) hpp hO hl hm (by omega)
      exact ⟨lo2, e⟩
    | some y =>
      show ∃ lo2, (de >>= _) ⟨put lo x vs[j], H⟩ = _
      rw [ev_bind (h2 y hF), ev_bind (ev_push hm (by omega))]
      obtain ⟨lo2, e⟩ := ih (j + 1) k (put lo x vs[j]) (H.set m (.list (acc ++ [y]))) (acc ++ [y]) (by omega) (by omega) hpp (hset _ _ hO) (set_ne hl hlm) (set_get hm) (by simp; omega)
      refine ⟨lo2, ?_⟩
      rw [e, List.set_set]; simp
end Mine
end

section
open PySem PySem.W PyProof.Rows
set_option autoImplicit false
set_option linter.unusedVariables false
namespace Mine
noncomputable def Over (H H' : List AObj) : Prop := H.length ≤ H'.length ∧ ∀ i, i < H.length → H'[i]? = H[i]?
theorem Over.at {H H' : List AObj} (h : Over H H') {i : Nat} {o : AObj} (e : H[i]? = some o) : H'[i]? = some o := by rw [h.2 i (List.getElem?_eq_some_iff.mp e).1]; exact e
theorem Over.refl (H : List AObj) : Over H H := ⟨Nat.le_refl _, fun _ _ => rfl⟩
theorem Over.trans {H H₁ H₂ : List AObj} (x : Over H H₁) (y : Over H₁ H₂) : Over H H₂ := ⟨Nat.le_trans x.1 y.1, fun i hi => (y.2 i (Nat.lt_of_lt_of_le hi x.1)).trans (x.2 i hi)⟩
theorem Over.app (H l : List AObj) : Over H (H ++ l) := ⟨by simp, fun i hi => List.getElem?_append_left hi⟩
theorem Over.set {H H' : List AObj} (h : Over H H') {m : Nat} (hm : H.length ≤ m) (o : AObj) : Over H (H'.set m o) := ⟨by simpa using h.1, fun i hi => by rw [List.getElem?_set_ne (by omega)]; exact h.2 i hi⟩
/-- [e for x in xs if t] -/
theorem comp_run {fv : List Str} {di : M AVal} {x : Str} {dt : M Bool} {de : M AVal} {n l : Nat} {vs : List AVal} {σ σ₁ : St} (F : AVal → Option AVal) (hdi : di σ = some (.ref l, σ₁)) (hl : σ₁.H[l]? = some (.list vs)) (hn : vs.length < n) (hs : vs.length ≤ 1000)
    (hd : ∀ v ∈ vs, ∀ H, Over σ₁.H H → dt ⟨put (loF fv σ₁.lo) x v, H⟩ = some ((F v).isSome, ⟨put (loF fv σ₁.lo) x v, H⟩) ∧ ∀ y, F v = some y → de ⟨put (loF fv σ₁.lo) x v, H⟩ = some (y, ⟨put (loF fv σ₁.lo) x v, H⟩)) :
    dCompF fv di x dt de n σ = some (.ref σ₁.H.length, ⟨σ₁.lo, σ₁.H ++ [.list (vs.filterMap F)]⟩) := by
  have hll := (List.getElem?_eq_some_iff.mp hl).1
  have hm : (σ₁.H ++ [AObj.list []])[σ₁.H.length]? = some (.list []) := by rw [List.getElem?_append_right (Nat.le_refl _)]; simp
  obtain ⟨lo2, e⟩ := compL_run (l := l) (m := σ₁.H.length) (x := x) (vs := vs) (dt := dt) (de := de) (lo := loF fv σ₁.lo) F (Over σ₁.H) (by omega) (fun H o h => h.set (Nat.le_refl _) o) hd vs.length 0 n (loF fv σ₁.lo) (σ₁.H ++ [.list []]) []
    (by omega) hn (fun _ => rfl) (.app ..) (by rw [List.getElem?_append_left hll]; exact hl) hm (by simpa using hs)
  unfold dCompF
  rw [ev_bind hdi, ev_bind (mk_list hl)]
  show (dCompL (nxList l) x dt de σ₁.H.length n 0 ⟨loF fv σ₁.lo, σ₁.H ++ [.list []]⟩).map _ = _
  rw [e]
  simp
end Mine
end

section
open PySem PySem.W PyProof.Rows
set_option autoImplicit false
set_option linter.unusedVariables false
namespace Mine
/-! _law_family, run -/
noncomputable def addP (more : List Int) (p : Int) : List Int := if more.any (· == p) then more else more ++ [p]
noncomputable def famStep (fam : List Int) (x : Int) : List Int :=
  let more := (x :: fam.map fun y => Builtin.bitAnd x y).foldl addP fam
  if more.length ≤ 6 then more else fam
noncomputable def famP (nums : List Int) : List Int := nums.foldl famStep []
theorem intsOf_map (ns : List Int) : intsOf (ns.map .int) = some ns := by
  induction ns with
  | nil => rfl
  | cons n ns ih => simp only [List.map_cons, intsOf, ih]; rfl
theorem ev_notIn {i : Int} {a : Nat} {ns : List Int} {σ : St} (h : σ.H[a]? = some (.list (ns.map .int))) : notInA (.int i) (.ref a) σ = some (!ns.any (· == i), σ) := by
  unfold notInA; dsimp only; rw [ev_bind (ev_getO h)]; dsimp only; rw [intsOf_map]; rfl
theorem ev_append {a : Nat} {vs : List AVal} {v : AVal} {σ : St} (h : σ.H[a]? = some (.list vs)) (hl : vs.length ≤ 1000) : appendD [.ref a, v] σ = some (.none, ⟨σ.lo, σ.H.set a (.list (vs ++ [v]))⟩) := by
  unfold appendD; dsimp only; rw [ev_bind (ev_push h hl)]; rfl
theorem famP_run {m q : Nat} {ps : List Int} (hmq : m ≠ q) : ∀ (rest : List Int) (i fuel : Nat) (lo : Lo) (H : List AObj) (more : List Int), ps.drop i = rest → rest.length < fuel → lo "more" = some (.ref m) → H[q]? = some (.list (ps.map .int)) → H[m]? = some (.list (more.map .int)) → more.length + rest.length ≤ 1000 →
    ∃ lo', dLoop (nxList q) (setV "part") dFamP fuel i ⟨lo, H⟩ = some (.next, ⟨lo', H.set m (.list ((rest.foldl addP more).map .int))⟩) ∧ ∀ y : Str, y ≠ "part" → lo' y = lo y := by
  intro rest
  induction rest with
  | nil =>
    intro i fuel lo H more hd hf h1 h2 h3 hl
    obtain ⟨k, rfl⟩ : ∃ k, fuel = k + 1 := ⟨fuel - 1, by simp at hf; omega⟩
    refine ⟨lo, ?_, fun _ _ => rfl⟩
    have hi : ps.length ≤ i := List.drop_eq_nil_iff.mp hd
    rw [loop_end (by unfold nxList; rw [h2]; dsimp only; rw [List.getElem?_eq_none (by simpa using hi)])]
    have : H.set m (.list ((([] : List Int).foldl addP more).map .int)) = H := by
      refine List.ext_getElem? fun k => ?_
      by_cases q : k = m
      · subst q; rw [set_get h3, h3]; rfl
      · rw [List.getElem?_set_ne (Ne.symm q)]
    rw [this]
  | cons p rest ih =>
    intro i fuel lo H more hd hf h1 h2 h3 hl
    obtain ⟨k, rfl⟩ : ∃ k, fuel = k + 1 := ⟨fuel - 1, by simp at hf; omega⟩
    have hki : ps[i]? = some p := by
      have : (ps.drop i)[0]? = some p := by rw [hd]; rfl
      simpa using this
    have hd' : ps.drop (i + 1) = rest := by
      have : (ps.drop i).drop 1 = rest := by rw [hd]; rfl
      rwa [List.drop_drop] at this
    have hnx : nxList q i H = some (some (.int p)) := by unfold nxList; rw [h2]; dsimp only; rw [List.getElem?_map, hki]; rfl
    have l1 : put lo "part" (.int p) "more" = some (.ref m) := (put_other (by decide)).trans h1
    have lp : put lo "part" (.int p) "part" = some (.int p) := put_same
    have hc : cmp notInA (getV "part") (getV "more") ⟨put lo "part" (.int p), H⟩ = some (!more.any (· == p), ⟨put lo "part" (.int p), H⟩) := by
      rw [ev_cmp (ev_getV lp) (ev_getV l1)]; exact ev_notIn h3
    by_cases hin : more.any (· == p) = true
    · have hb : dFamP ⟨put lo "part" (.int p), H⟩ = some (.next, ⟨put lo "part" (.int p), H⟩) := by
        unfold dFamP; rw [ev_ifF (by rw [hc, hin]; rfl)]; rfl
      rw [loop_step hnx ev_setV hb]
      obtain ⟨lo', e1, e2⟩ := ih (i + 1) k (put lo "part" (.int p)) H more hd' (by simp at hf; omega) l1 h2 h3 (by simp at hl; omega)
      refine ⟨lo', ?_, fun y hy => (e2 y hy).trans (put_other hy)⟩
      rw [e1, List.foldl_cons]; unfold addP; rw [if_pos hin]
    · have hb : dFamP ⟨put lo "part" (.int p), H⟩ = some (.next, ⟨put lo "part" (.int p), H.set m (.list (more.map .int ++ [.int p]))⟩) := by
        unfold dFamP
        rw [ev_ifT (by rw [hc, Bool.not_eq_true _ |>.mp hin]; rfl)]
        refine ev_exprs (v := .none) ?_
        rw [ev_meth (ev_getV l1) h3 rfl (ev_ac (ev_getV lp) ev_a0)]
        exact ev_append h3 (by simp at hl ⊢; omega)
      rw [loop_step hnx ev_setV hb]
      have e0 : more.map AVal.int ++ [.int p] = (more ++ [p]).map .int := by simp
      rw [e0]
      obtain ⟨lo', e1, e2⟩ := ih (i + 1) k (put lo "part" (.int p)) (H.set m (.list ((more ++ [p]).map .int))) (more ++ [p]) hd' (by simp at hf; omega) l1 (set_ne h2 hmq) (set_get h3) (by simp at hl ⊢; omega)
      refine ⟨lo', ?_, fun y hy => (e2 y hy).trans (put_other hy)⟩
      rw [e1, List.set_set, List.foldl_cons]
      have : addP more p = more ++ [p] := by unfold addP; rw [if_neg hin]
      rw [this]
end Mine
end

section
open PySem PySem.W PyProof.Rows
set_option autoImplicit false
set_option linter.unusedVariables false
namespace Mine
theorem run_and {a b : Int} {H : List AObj} : fAndF [.int a, .int b] H = some (.int (Builtin.bitAnd a b), H) := rfl
theorem ev_listD {a : Nat} {vs : List AVal} {σ : St} (h : σ.H[a]? = some (.list vs)) (hl : vs.length ≤ 1000) : listD [.ref a] σ = some (.ref σ.H.length, ⟨σ.lo, σ.H ++ [.list vs]⟩) := by
  unfold listD; dsimp only
  have e : asList (.ref a) σ = some ((a, vs), σ) := by unfold asList; dsimp only; rw [ev_bind (ev_getO h)]; rfl
  rw [ev_bind e]; dsimp only; rw [if_pos hl]; rfl
theorem ev_addL {a b : Nat} {xs ys : List AVal} {σ : St} (h : σ.H[a]? = some (.list xs)) (h' : σ.H[b]? = some (.list ys)) (hl : xs.length + ys.length ≤ 1000) : addL (.ref a) (.ref b) σ = some (.ref σ.H.length, ⟨σ.lo, σ.H ++ [.list (xs ++ ys)]⟩) := by
  unfold addL
  have e : asList (.ref a) σ = some ((a, xs), σ) := by unfold asList; dsimp only; rw [ev_bind (ev_getO h)]; rfl
  have e' : asList (.ref b) σ = some ((b, ys), σ) := by unfold asList; dsimp only; rw [ev_bind (ev_getO h')]; rfl
  rw [ev_bind e]; dsimp only; rw [ev_bind e']; dsimp only; rw [if_pos hl]; rfl
theorem ev_lst {ds : M (List AVal)} {vs : List AVal} {σ σ₁ : St} (h : ds σ = some (vs, σ₁)) (hl : vs.length ≤ 1000) : lst ds σ = some (.ref σ₁.H.length, ⟨σ₁.lo, σ₁.H ++ [.list vs]⟩) := by
  unfold lst; rw [ev_bind h, if_pos hl]; rfl
theorem get_app {H l : List AObj} {i : Nat} {o : AObj} (h : H[i]? = some o) : (H ++ l)[i]? = some o := by rw [List.getElem?_append_left (List.getElem?_eq_some_iff.mp h).1]; exact h
theorem get_new {H : List AObj} {o : AObj} {l : List AObj} : (H ++ o :: l)[H.length]? = some o := by rw [List.getElem?_append_right (Nat.le_refl _)]; simp
theorem fm_ints (g : Int → Int) (l : List Int) : ((l.map AVal.int).filterMap fun v => match v with | .int y => some (AVal.int (g y)) | _ => none) = (l.map g).map .int := by
  induction l with
  | nil => rfl
  | cons y ys ih => simp only [List.map_cons, List.filterMap_cons, ih]
theorem addP_len (more : List Int) (p : Int) : (addP more p).length ≤ more.length + 1 := by unfold addP; split <;> simp
theorem famStep_len (fam : List Int) (x : Int) (h : fam.length ≤ 6) : (famStep fam x).length ≤ 6 := by
  unfold famStep; dsimp only; split
  · assumption
  · exact h
theorem famX_run {fi : Nat} {fam : List Int} {x : Int} {lo : Lo} {H : List AObj} (hf : lo "family" = some (.ref fi)) (hx : lo "x" = some (.int x)) (hH : H[fi]? = some (.list (fam.map .int))) (h6 : fam.length ≤ 6) :
    ∃ lo' H' fi', dFamX ⟨lo, H⟩ = some (.next, ⟨lo', H'⟩) ∧ Over H H' ∧ lo' "family" = some (.ref fi') ∧ H'[fi']? = some (.list ((famStep fam x).map .int)) := by
  let lo1 := put lo "more" (.ref H.length)
  let ps := x :: fam.map fun y => Builtin.bitAnd x y
  let H1 := H ++ [AObj.list (fam.map .int)]
  let H2 := H1 ++ [AObj.list [.int x]]
  let H3 := H2 ++ [AObj.list ((fam.map fun y => Builtin.bitAnd x y).map .int)]
  let H4 := H3 ++ [AObj.list (ps.map .int)]
  have hll := (List.getElem?_eq_some_iff.mp hH).1
  have hmore : asg "more" (fnc listD (ac (getV "family") a0)) ⟨lo, H⟩ = some (.next, ⟨lo1, H1⟩) := by
    refine ev_asg (σ₁ := ⟨lo, H1⟩) ?_
    rw [ev_fnc (ev_ac (ev_getV hf) ev_a0)]
    exact ev_listD hH (by simp; omega)
  have l1f : lo1 "family" = some (.ref fi) := (put_other (by decide)).trans hf
  have l1x : lo1 "x" = some (.int x) := (put_other (by decide)).trans hx
  have l1m : lo1 "more" = some (.ref H.length) := put_same
  have hfi2 : H2[fi]? = some (.list (fam.map .int)) := get_app (get_app hH)
  have hcomp : dCompF ["x"] (getV "family") "old" (pure true) (callF fAndF (ac (getV "x") (ac (getV "old") a0))) 100 ⟨lo1, H2⟩ = some (.ref H2.length, ⟨lo1, H3⟩) := by
    rw [comp_run (fun v => match v with | .int y => some (.int (Builtin.bitAnd x y)) | _ => none) (ev_getV l1f) hfi2 (by simp; omega) (by simp; omega) (fun v hv G hG => by
      obtain ⟨y, hy, rfl⟩ := List.mem_map.mp hv
      have q1 : put (loF ["x"] lo1) "old" (.int y) "x" = some (.int x) := by
        refine (put_other (by decide)).trans ?_
        unfold loF; rw [if_pos (by simp)]; exact l1x
      refine ⟨rfl, fun z hz => ?_⟩
      cases hz
      exact ev_callF (ev_ac (ev_getV q1) (ev_ac (ev_getV (show put (loF ["x"] lo1) "old" (.int y) "old" = _ from put_same)) ev_a0)) run_and)]
    have := fm_ints (fun y => Builtin.bitAnd x y) fam
    rw [this]
  have hlst : lst (ac (getV "x") a0) ⟨lo1, H1⟩ = some (.ref H1.length, ⟨lo1, H2⟩) := ev_lst (ev_ac (ev_getV l1x) ev_a0) (by simp)
  have hsum : bin addL (lst (ac (getV "x") a0)) (dCompF ["x"] (getV "family") "old" (pure true) (callF fAndF (ac (getV "x") (ac (getV "old") a0))) 100) ⟨lo1, H1⟩ = some (.ref H3.length, ⟨lo1, H4⟩) := by
    rw [ev_bin hlst hcomp]
    exact ev_addL (a := H1.length) (b := H2.length) (σ := ⟨lo1, H3⟩) (get_app get_new) get_new (by simp; omega)
  have hq4 : H4[H3.length]? = some (.list (ps.map .int)) := get_new
  have hm4 : H4[H.length]? = some (.list (fam.map .int)) := get_app (get_app (get_app get_new))
  obtain ⟨lo2, e1, e2⟩ := famP_run (m := H.length) (q := H3.length) (ps := ps) (by simp [H3, H2, H1]) ps 0 100 lo1 H4 fam rfl (by simp [ps]; omega) l1m hq4 hm4 (by simp [ps]; omega)
  let more := ps.foldl addP fam
  let H5 := H4.set H.length (.list (more.map .int))
  have o5 : Over H H5 := by
    have : Over H H4 := ((Over.app ..).trans (.app ..)).trans ((Over.app ..).trans (.app ..))
    exact this.set (Nat.le_refl _) _
  have hlen : more.length ≤ 1000 := by
    have : ∀ (l acc : List Int), (l.foldl addP acc).length ≤ acc.length + l.length := by
      intro l
      induction l with
      | nil => intro acc; simp
      | cons a l ih => intro acc; simp only [List.foldl_cons, List.length_cons]; have := ih (addP acc a); have := addP_len acc a; omega
    have h := this ps fam
    have hp : ps.length = fam.length + 1 := by simp [ps]
    show (ps.foldl addP fam).length ≤ 1000
    omega
  have hm5 : H5[H.length]? = some (.list (more.map .int)) := set_get hm4
  have l2m : lo2 "more" = some (.ref H.length) := (e2 _ (by decide)).trans l1m
  have l2f : lo2 "family" = some (.ref fi) := (e2 _ (by decide)).trans l1f
  have hc : cmp (cmpI fun a b => decide (a ≤ b)) (fnc lenA (ac (getV "more") a0)) (I 6) ⟨lo2, H5⟩ = some (decide ((more.length : Int) ≤ 6), ⟨lo2, H5⟩) := by
    rw [ev_cmp (a := .int more.length) (σ₁ := ⟨lo2, H5⟩) (by rw [ev_fnc (ev_ac (ev_getV l2m) ev_a0), ev_lenL hm5 (by simpa using hlen)]; simp) ev_I]; rfl
  have start : dFamX ⟨lo, H⟩ = ifs (cmp (cmpI fun a b => decide (a ≤ b)) (fnc lenA (ac (getV "more") a0)) (I 6)) (asg "family" (getV "more")) nil' ⟨lo2, H5⟩ := by
    unfold dFamX
    rw [ev_seq hmore]
    rw [ev_seq (σ₁ := ⟨lo2, H5⟩) ?_]
    rw [ev_forL hsum (mk_list hq4)]
    exact e1
  by_cases h7 : more.length ≤ 6
  · refine ⟨put lo2 "family" (.ref H.length), H5, H.length, ?_, o5, put_same, ?_⟩
    · rw [start, ev_ifT (by rw [hc, decide_eq_true (by omega)])]
      exact ev_asg (ev_getV l2m)
    · have : famStep fam x = more := by unfold famStep; exact if_pos h7
      rw [this]; exact hm5
  · refine ⟨lo2, H5, fi, ?_, o5, l2f, ?_⟩
    · rw [start, ev_ifF (by rw [hc, decide_eq_false (by omega)])]; rfl
    · have : famStep fam x = fam := by unfold famStep; exact if_neg h7
      rw [this]; exact o5.at hH
end Mine
end

section
open PySem PySem.W PyProof.Rows
set_option autoImplicit false
set_option linter.unusedVariables false
namespace Mine
theorem famO_run {l : Nat} {nums : List Int} : ∀ (rest : List Int) (i fuel fi : Nat) (lo : Lo) (H : List AObj) (fam : List Int), nums.drop i = rest → rest.length < fuel → lo "family" = some (.ref fi) → H[l]? = some (.list (nums.map .int)) → H[fi]? = some (.list (fam.map .int)) → fam.length ≤ 6 →
    ∃ lo' H' fi', dLoop (nxList l) (setV "x") dFamX fuel i ⟨lo, H⟩ = some (.next, ⟨lo', H'⟩) ∧ Over H H' ∧ lo' "family" = some (.ref fi') ∧ H'[fi']? = some (.list ((rest.foldl famStep fam).map .int)) := by
  intro rest
  induction rest with
  | nil =>
    intro i fuel fi lo H fam hd hf h1 h2 h3 h6
    obtain ⟨k, rfl⟩ : ∃ k, fuel = k + 1 := ⟨fuel - 1, by simp at hf; omega⟩
    have hi : nums.length ≤ i := List.drop_eq_nil_iff.mp hd
    refine ⟨lo, H, fi, ?_, .refl _, h1, h3⟩
    rw [loop_end (by unfold nxList; rw [h2]; dsimp only; rw [List.getElem?_eq_none (by simpa using hi)])]
  | cons x rest ih =>
    intro i fuel fi lo H fam hd hf h1 h2 h3 h6
    obtain ⟨k, rfl⟩ : ∃ k, fuel = k + 1 := ⟨fuel - 1, by simp at hf; omega⟩
    have hki : nums[i]? = some x := by
      have : (nums.drop i)[0]? = some x := by rw [hd]; rfl
      simpa using this
    have hd' : nums.drop (i + 1) = rest := by
      have : (nums.drop i).drop 1 = rest := by rw [hd]; rfl
      rwa [List.drop_drop] at this
    have hnx : nxList l i H = some (some (.int x)) := by unfold nxList; rw [h2]; dsimp only; rw [List.getElem?_map, hki]; rfl
    obtain ⟨lo1, H1, fi1, e1, e2, e3, e4⟩ := famX_run (lo := put lo "x" (.int x)) (x := x) ((put_other (by decide)).trans h1) put_same h3 h6
    rw [loop_step hnx ev_setV e1]
    obtain ⟨lo', H', fi', a1, a2, a3, a4⟩ := ih (i + 1) k fi1 lo1 H1 (famStep fam x) hd' (by simp at hf; omega) e3 (e2.at h2) e4 (famStep_len fam x h6)
    exact ⟨lo', H', fi', a1, e2.trans a2, a3, a4⟩
theorem fam_run {l : Nat} {nums : List Int} {H : List AObj} (hl : H[l]? = some (.list (nums.map .int))) (hn : nums.length < 100) :
    ∃ H' fi, fFam [.ref l] H = some (.ref fi, H') ∧ Over H H' ∧ H'[fi]? = some (.list ((famP nums).map .int)) := by
  let lo0 : Lo := put (fun _ => none) "numbers" (.ref l)
  let lo1 := put lo0 "family" (.ref H.length)
  obtain ⟨lo', H', fi, a1, a2, a3, a4⟩ := famO_run (l := l) (nums := nums) nums 0 100 H.length lo1 (H ++ [.list (([] : List Int).map .int)]) [] rfl hn put_same (get_app hl) get_new (by simp)
  refine ⟨H', fi, ?_, (Over.app ..).trans a2, a4⟩
  have hrun : dFam ⟨lo0, H⟩ = some (.ret (.ref fi), ⟨lo', H'⟩) := by
    unfold dFam
    rw [ev_seq (ev_asg (ev_lst ev_a0 (by simp)))]
    rw [ev_seq (σ₁ := ⟨lo', H'⟩) ?_]
    · exact ev_rets (ev_getV a3)
    · rw [ev_forL (ev_getV (show put lo0 "family" (.ref H.length) "numbers" = some (.ref l) from (put_other (by decide)).trans put_same)) (mk_list (get_app hl))]
      exact a1
  unfold fFam runF bd1
  simp only [Option.bind_some]
  show (dFam ⟨lo0, H⟩).bind _ = _
  rw [hrun]; rfl
end Mine
end

section
open PySem PySem.W PyProof.Rows
set_option autoImplicit false
set_option linter.unusedVariables false
namespace Mine
noncomputable abbrev An (x y : Int) : Int := Builtin.bitAnd x y
theorem an_nat {x y : Int} (hx : 0 ≤ x) (hy : 0 ≤ y) : An x y = ((x.toNat &&& y.toNat : Nat) : Int) := bitAnd_pp hx hy
theorem an_nonneg {x y : Int} (hx : 0 ≤ x) (hy : 0 ≤ y) : 0 ≤ An x y := by rw [an_nat hx hy]; omega
theorem an_comm (x y : Int) : An x y = An y x := bitAnd_comm x y
theorem an_assoc {x y z : Int} (hx : 0 ≤ x) (hy : 0 ≤ y) (hz : 0 ≤ z) : An (An x y) z = An x (An y z) := by
  rw [an_nat (an_nonneg hx hy) hz, an_nat hx (an_nonneg hy hz), an_nat hx hy, an_nat hy hz]
  simp only [Int.toNat_natCast, Nat.and_assoc]
theorem an_idem {x : Int} (hx : 0 ≤ x) : An x x = x := by rw [an_nat hx hx, Nat.and_self]; omega
theorem an_le {x y : Int} (hx : 0 ≤ x) (hy : 0 ≤ y) : An x y ≤ x := by
  rw [an_nat hx hy]
  have : x.toNat &&& y.toNat ≤ x.toNat := Nat.and_le_left
  omega
structure FamOk (fam : List Int) : Prop where
  nd : fam.Nodup
  pos : ∀ x ∈ fam, 0 ≤ x
  cl : ∀ x ∈ fam, ∀ y ∈ fam, An x y ∈ fam
  six : fam.length ≤ 6
theorem any_mem {l : List Int} {p : Int} : l.any (· == p) = true ↔ p ∈ l := by
  rw [List.any_eq_true]
  exact ⟨fun ⟨x, h1, h2⟩ => (beq_iff_eq.mp h2) ▸ h1, fun h => ⟨p, h, beq_self_eq_true p⟩⟩
theorem mem_addP {more : List Int} {p a : Int} : a ∈ addP more p ↔ a ∈ more ∨ a = p := by
  unfold addP
  by_cases h : more.any (· == p) = true
  · rw [if_pos h]
    exact ⟨.inl, fun q => q.elim id fun e => e ▸ any_mem.mp h⟩
  · rw [if_neg h]; simp
theorem nodup_addP {more : List Int} {p : Int} (h : more.Nodup) : (addP more p).Nodup := by
  unfold addP
  by_cases q : more.any (· == p) = true
  · rw [if_pos q]; exact h
  · rw [if_neg q]
    refine List.nodup_append.mpr ⟨h, by simp, fun x hx y hy e => q (any_mem.mpr ?_)⟩
    rw [List.mem_singleton.mp hy] at e; exact e ▸ hx
theorem mem_foldP {ps : List Int} : ∀ {more : List Int} {a : Int}, a ∈ ps.foldl addP more ↔ a ∈ more ∨ a ∈ ps := by
  induction ps with
  | nil => intro more a; simp
  | cons p ps ih =>
    intro more a
    rw [List.foldl_cons, ih, mem_addP, List.mem_cons, or_assoc]
theorem nodup_foldP {ps : List Int} : ∀ {more : List Int}, more.Nodup → (ps.foldl addP more).Nodup := by
  induction ps with
  | nil => intro more h; exact h
  | cons p ps ih => intro more h; exact ih (nodup_addP h)
theorem FamOk.step {fam : List Int} (h : FamOk fam) {x : Int} (hx : 0 ≤ x) : FamOk (famStep fam x) := by
  unfold famStep
  dsimp only
  split
  · rename_i h6
    have mem : ∀ a, a ∈ (x :: fam.map fun y => Builtin.bitAnd x y).foldl addP fam ↔ a ∈ fam ∨ a = x ∨ ∃ y ∈ fam, An x y = a := fun a => by
      rw [mem_foldP, List.mem_cons, List.mem_map]
    have inP : ∀ y ∈ fam, An x y ∈ (x :: fam.map fun y => Builtin.bitAnd x y).foldl addP fam := fun y hy => (mem _).mpr (.inr (.inr ⟨y, hy, rfl⟩))
    have pos : ∀ a ∈ (x :: fam.map fun y => Builtin.bitAnd x y).foldl addP fam, 0 ≤ a := fun a ha => by
      rcases (mem a).mp ha with q | q | ⟨y, hy, q⟩
      · exact h.pos a q
      · rw [q]; exact hx
      · rw [← q]; exact an_nonneg hx (h.pos y hy)
    refine ⟨nodup_foldP h.nd, pos, fun a ha b hb => ?_, h6⟩
    rcases (mem a).mp ha with qa | qa | ⟨y, hy, qa⟩ <;> rcases (mem b).mp hb with qb | qb | ⟨z, hz, qb⟩
    · exact (mem _).mpr (.inl (h.cl a qa b qb))
    · rw [qb, an_comm]; exact inP a qa
    · rw [← qb, an_comm, an_assoc hx (h.pos z hz) (h.pos a qa)]; exact inP _ (h.cl z hz a qa)
    · rw [qa]; exact inP b qb
    · rw [qa, qb, an_idem hx]; exact (mem _).mpr (.inr (.inl rfl))
    · rw [qa, ← qb, ← an_assoc hx hx (h.pos z hz), an_idem hx]; exact inP z hz
    · rw [← qa, an_assoc hx (h.pos y hy) (h.pos b qb)]; exact inP _ (h.cl y hy b qb)
    · rw [← qa, qb, an_comm, ← an_assoc hx hx (h.pos y hy), an_idem hx]; exact inP y hy
    · rw [← qa, ← qb, an_comm x y, an_assoc (h.pos y hy) hx (an_nonneg hx (h.pos z hz)), ← an_assoc hx hx (h.pos z hz), an_idem hx, ← an_assoc (h.pos y hy) hx (h.pos z hz), an_comm y x, an_assoc hx (h.pos y hy) (h.pos z hz)]
      exact inP _ (h.cl y hy z hz)
  · exact h
theorem famStep_ne {fam : List Int} {x : Int} : famStep fam x ≠ [] := by
  unfold famStep
  dsimp only
  split
  · intro e
    have : x ∈ (x :: fam.map fun y => Builtin.bitAnd x y).foldl addP fam := mem_foldP.mpr (.inr List.mem_cons_self)
    rw [e] at this; cases this
  · rename_i h
    intro e
    subst e
    exact h (by simp [addP])
theorem FamOk.all {nums : List Int} (hp : ∀ x ∈ nums, 0 ≤ x) : ∀ {fam : List Int}, FamOk fam → FamOk (nums.foldl famStep fam) := by
  induction nums with
  | nil => intro fam h; exact h
  | cons x nums ih => intro fam h; exact ih (fun y hy => hp y (List.mem_cons_of_mem _ hy)) (h.step (hp x List.mem_cons_self))
theorem famP_ok {nums : List Int} (hp : ∀ x ∈ nums, 0 ≤ x) : FamOk (famP nums) := FamOk.all hp ⟨List.nodup_nil, by simp, by simp, by simp⟩
theorem famP_ne {nums : List Int} (h : nums ≠ []) : famP nums ≠ [] := by
  have e := List.dropLast_concat_getLast h
  unfold famP
  rw [← e, List.foldl_append]
  exact famStep_ne
end Mine
end

section
open PySem PySem.W PyProof.Rows
set_option autoImplicit false
set_option linter.unusedVariables false
namespace Mine
/-! a calculus of runs: W d σ Q says that d runs at σ and its end is in Q -/
noncomputable def Wp {α : Type} (d : M α) (σ : St) (Q : α → St → Prop) : Prop := ∃ a σ', d σ = some (a, σ') ∧ Q a σ'
theorem Wp.mono {α : Type} {d : M α} {σ : St} {Q Q' : α → St → Prop} (h : Wp d σ Q) (hq : ∀ a σ', Q a σ' → Q' a σ') : Wp d σ Q' := by
  obtain ⟨a, σ', e, q⟩ := h
  exact ⟨a, σ', e, hq a σ' q⟩
theorem wp_bind {α β : Type} {d : M α} {f : α → M β} {σ : St} {Q : β → St → Prop} : Wp (d >>= f) σ Q ↔ Wp d σ fun a σ' => Wp (f a) σ' Q := by
  constructor
  · rintro ⟨b, σ', e, q⟩
    obtain ⟨a, σ₁, e1, e2⟩ := bind_some e
    exact ⟨a, σ₁, e1, b, σ', e2, q⟩
  · rintro ⟨a, σ₁, e1, b, σ', e2, q⟩
    exact ⟨b, σ', by rw [ev_bind e1]; exact e2, q⟩
theorem wp_pure {α : Type} {v : α} {σ : St} {Q : α → St → Prop} : Wp (pure v) σ Q ↔ Q v σ := by
  constructor
  · rintro ⟨b, σ', e, q⟩; obtain ⟨rfl, rfl⟩ := pure_some e; exact q
  · intro q; exact ⟨v, σ, rfl, q⟩
theorem wp_fail {α : Type} {σ : St} {Q : α → St → Prop} : Wp (fail : M α) σ Q ↔ False := by
  constructor
  · rintro ⟨b, σ', e, q⟩; exact fail_some (σ := σ) e
  · exact False.elim
theorem wp_getV {x : Str} {σ : St} {Q : AVal → St → Prop} : Wp (getV x) σ Q ↔ ∃ v, σ.lo x = some v ∧ Q v σ := by
  constructor
  · rintro ⟨b, σ', e, q⟩; obtain ⟨h, rfl⟩ := getV_some e; exact ⟨b, h, q⟩
  · rintro ⟨v, h, q⟩; exact ⟨v, σ, ev_getV h, q⟩
theorem wp_getO {i : Nat} {σ : St} {Q : AObj → St → Prop} : Wp (getO i) σ Q ↔ ∃ o, σ.H[i]? = some o ∧ Q o σ := by
  constructor
  · rintro ⟨b, σ', e, q⟩; obtain ⟨h, rfl⟩ := getO_some e; exact ⟨b, h, q⟩
  · rintro ⟨v, h, q⟩; exact ⟨v, σ, ev_getO h, q⟩
theorem wp_setV {x : Str} {v : AVal} {σ : St} {Q : Unit → St → Prop} : Wp (setV x v) σ Q ↔ Q () ⟨put σ.lo x v, σ.H⟩ := by
  constructor
  · rintro ⟨b, σ', e, q⟩; cases e; exact q
  · intro q; exact ⟨(), _, rfl, q⟩
theorem wp_setO {i : Nat} {o : AObj} {σ : St} {Q : Unit → St → Prop} : Wp (setO i o) σ Q ↔ Q () ⟨σ.lo, σ.H.set i o⟩ := by
  constructor
  · rintro ⟨b, σ', e, q⟩; cases e; exact q
  · intro q; exact ⟨(), _, rfl, q⟩
theorem wp_newO {o : AObj} {σ : St} {Q : AVal → St → Prop} : Wp (newO o) σ Q ↔ Q (.ref σ.H.length) ⟨σ.lo, σ.H ++ [o]⟩ := by
  constructor
  · rintro ⟨b, σ', e, q⟩; cases e; exact q
  · intro q; exact ⟨_, _, rfl, q⟩
theorem wp_lift {α : Type} {o : Option α} {σ : St} {Q : α → St → Prop} : Wp (lift o) σ Q ↔ ∃ v, o = some v ∧ Q v σ := by
  constructor
  · rintro ⟨b, σ', e, q⟩; obtain ⟨h, rfl⟩ := lift_some e; exact ⟨b, h, q⟩
  · rintro ⟨v, h, q⟩; exact ⟨v, σ, by rw [h]; rfl, q⟩
theorem wp_ite {α : Type} {c : Prop} [Decidable c] {a b : M α} {σ : St} {Q : α → St → Prop} : Wp (if c then a else b) σ Q ↔ if c then Wp a σ Q else Wp b σ Q := by
  by_cases h : c <;> simp [h]
/-- the same for a function -/
noncomputable def WF (D : List AObj → Option (AVal × List AObj)) (H : List AObj) (Q : AVal → List AObj → Prop) : Prop := ∃ v H', D H = some (v, H') ∧ Q v H'
theorem wp_onH {D : List AObj → Option (AVal × List AObj)} {σ : St} {Q : AVal → St → Prop} : Wp (onH D) σ Q ↔ WF D σ.H fun v H' => Q v ⟨σ.lo, H'⟩ := by
  constructor
  · rintro ⟨b, σ', e, q⟩; obtain ⟨H', h, rfl⟩ := onH_some e; exact ⟨b, H', h, q⟩
  · rintro ⟨v, H', h, q⟩; exact ⟨v, ⟨σ.lo, H'⟩, by unfold onH; rw [h]; rfl, q⟩
theorem wf_run {bd : List AObj → Option (List (Str × AVal) × List AObj)} {db : M AFlow} {H H₁ : List AObj} {l : List (Str × AVal)} {Q : AVal → List AObj → Prop} (hb : bd H = some (l, H₁))
    (h : Wp db ⟨loB l fun _ => none, H₁⟩ fun f σ' => ∃ v, retOf f = some v ∧ Q v σ'.H) : WF (runF bd db) H Q := by
  obtain ⟨f, σ', e, v, r, q⟩ := h
  exact ⟨v, σ'.H, by unfold runF; rw [hb]; simp only [Option.bind_some]; rw [e]; simp only [Option.bind_some]; rw [r]; rfl, q⟩
theorem wp_seq {d d' : M AFlow} {σ : St} {Q : AFlow → St → Prop} (h : Wp d σ fun f σ' => f = .next ∧ Wp d' σ' Q) : Wp (seq d d') σ Q := by
  unfold seq
  rw [wp_bind]
  refine h.mono fun f σ' ⟨e, h⟩ => ?_
  subst e; exact h
/-- a loop -/
theorem wp_loop {nx : Nx} {bnd : AVal → M Unit} {db : M AFlow} (Inv : Nat → St → Prop) (len : Nat)
    (hs : ∀ j σ, j < len → Inv j σ → ∃ v, nx j σ.H = some (some v) ∧ Wp (do bnd v; db) σ fun f σ' => (f = .next ∨ f = .cont) ∧ Inv (j + 1) σ')
    (he : ∀ σ, Inv len σ → nx len σ.H = some none) : ∀ (c j n : Nat) (σ : St), j + c = len → c < n → Inv j σ → Wp (dLoop nx bnd db n j) σ fun f σ' => f = .next ∧ Inv len σ' := by
  intro c
  induction c with
  | zero =>
    intro j n σ hj hn hi
    obtain ⟨k, rfl⟩ : ∃ k, n = k + 1 := ⟨n - 1, by omega⟩
    have : j = len := by omega
    subst this
    exact ⟨.next, σ, loop_end (he σ hi), rfl, hi⟩
  | succ c ih =>
    intro j n σ hj hn hi
    obtain ⟨k, rfl⟩ : ∃ k, n = k + 1 := ⟨n - 1, by omega⟩
    obtain ⟨v, e, h⟩ := hs j σ (by omega) hi
    rw [wp_bind] at h
    obtain ⟨_, σ₁, e1, f, σ₂, e2, q, hi'⟩ := h
    obtain ⟨g, σ₃, e3, r⟩ := ih (j + 1) k σ₂ (by omega) (by omega) hi'
    refine ⟨g, σ₃, ?_, r⟩
    rcases q with rfl | rfl
    · rw [loop_step e e1 e2]; exact e3
    · rw [loop_cont e e1 e2]; exact e3
theorem wp_while {dt : M Bool} {db de : M AFlow} (Inv : Nat → St → Prop) {Q : AFlow → St → Prop}
    (hs : ∀ j σ, Inv j σ → Wp dt σ fun b σ₁ => if b then Wp db σ₁ (fun f σ₂ => match f with | .brk => Q .next σ₂ | .ret v => Q (.ret v) σ₂ | _ => ∃ i, i < j ∧ Inv i σ₂) else Wp de σ₁ Q) :
    ∀ (n j : Nat) (σ : St), j < n → Inv j σ → Wp (dWhile dt db de n) σ Q := by
  intro n
  induction n with
  | zero => intro j σ h; omega
  | succ n ih =>
    intro j σ hj hi
    unfold dWhile
    rw [wp_bind]
    refine (hs j σ hi).mono fun b σ₁ h => ?_
    cases b with
    | false => exact h
    | true =>
      rw [if_pos rfl] at h
      rw [if_pos rfl, wp_bind]
      refine h.mono fun f σ₂ h => ?_
      cases f with
      | brk => exact wp_pure.mpr h
      | ret v => exact wp_pure.mpr h
      | next => obtain ⟨i, hi, h⟩ := h; exact ih i σ₂ (by omega) h
      | cont => obtain ⟨i, hi, h⟩ := h; exact ih i σ₂ (by omega) h
end Mine
end

section
open PySem PySem.W PyProof.Rows
set_option autoImplicit false
set_option linter.unusedVariables false
set_option linter.unusedSimpArgs false
namespace Mine
theorem str_eq {a b : String} : Str.ofString a = Str.ofString b ↔ a = b := by
  constructor
  · intro h
    rw [Str.ofString_eq_toList, Str.ofString_eq_toList] at h
    have h1 : (a.toList.map Char.toNat) = (b.toList.map Char.toNat) := by simpa using h
    have h2 : a.toList = b.toList := by
      have inj : ∀ (l l' : List Char), l.map Char.toNat = l'.map Char.toNat → l = l' := by
        intro l
        induction l with
        | nil => intro l' h; cases l' with
          | nil => rfl
          | cons _ _ => simp at h
        | cons c l ih => intro l' h; cases l' with
          | nil => simp at h
          | cons c' l' =>
            simp only [List.map_cons, List.cons.injEq] at h
            rw [ih l' h.2]
            have : c = c' := Char.ext (UInt32.toNat.inj h.1)
            rw [this]
      exact inj _ _ h1
    exact String.toList_inj.mp h2
  · rintro rfl; rfl
theorem new_run {k : Int} {H : List AObj} : fNew [.int k] H = some (.ref (H.length + 1), H ++ [.sdict [], .inst 49 H.length [some (.int k), some (.int 0), some (.ref (H.length + 2))], .list []]) := by
  have h : WF (fNode [.ref (H.length + 1), .int k]) (H ++ [.sdict []] ++ [.inst 49 H.length []]) fun v H' => v = .none ∧ H' = H ++ [.sdict [], .inst 49 H.length [some (.int k), some (.int 0), some (.ref (H.length + 2))], .list []] := by
    unfold fNode
    refine wf_run (l := [("self", .ref (H.length + 1)), ("node", .int k)]) rfl ?_
    have e0 : H ++ [AObj.sdict []] ++ [.inst 49 H.length []] = H ++ [AObj.sdict [], .inst 49 H.length []] := by simp
    rw [e0]
    have e1 : (H ++ [AObj.sdict [], .inst 49 H.length []])[H.length + 1]? = some (.inst 49 H.length []) := by simp
    have e2 : (H ++ [AObj.sdict [], .inst 49 H.length []]).set (H.length + 1) (.inst 49 H.length (([] ++ List.replicate (0 + 1 - ([] : List (Option AVal)).length) none).set 0 (some (AVal.int k)))) = H ++ [AObj.sdict [], .inst 49 H.length [some (.int k)]] := by simp
    have e3 : (H ++ [AObj.sdict [], .inst 49 H.length [some (.int k)]])[H.length + 1]? = some (.inst 49 H.length [some (.int k)]) := by simp
    have e4 : (H ++ [AObj.sdict [], .inst 49 H.length [some (.int k)]]).set (H.length + 1) (.inst 49 H.length (([some (AVal.int k)] ++ List.replicate (1 + 1 - [some (AVal.int k)].length) none).set 1 (some (AVal.int 0)))) = H ++ [AObj.sdict [], .inst 49 H.length [some (.int k), some (.int 0)]] := by simp
    have e5 : (H ++ [AObj.sdict [], .inst 49 H.length [some (.int k), some (.int 0)]] ++ [.list []])[H.length + 1]? = some (.inst 49 H.length [some (.int k), some (.int 0)]) := by simp
    unfold dNode
    refine wp_seq ?_
    simp only [ifs, cmp, bin, asg, rets, exprs, ac, a0, fnc, meth, setI, forL, Mine.at', setAt, augAt, callM, callF, astar, named, isNot, nil', lst, I, isNoneA, cmpI, intsA, wp_bind, wp_pure, wp_getV, wp_getO, wp_setV, wp_setO, wp_newO, wp_lift, wp_ite, wp_fail, wp_onH, loB, put, str_eq, instD, dictD, setSlD, setSl, getSl, getD, putD, methD, lookS, storS, hOk, asList, asTuple, asDict, asSet, asDictR, chkT, kindT, Option.some.injEq, exists_eq_left', exists_eq_left, if_true, if_false, reduceIte, String.reduceEq, Option.join_some, true_and, and_true, List.getElem?_cons_zero, List.getElem?_cons_succ, reduceCtorEq, false_and, exists_false, Bool.false_eq_true, Bool.not_true, Bool.not_false, beq_self_eq_true, AVal.ref.injEq, AVal.int.injEq, e1]
    rw [e2]
    refine wp_seq ?_
    simp only [ifs, cmp, bin, asg, rets, exprs, ac, a0, fnc, meth, setI, forL, Mine.at', setAt, augAt, callM, callF, astar, named, isNot, nil', lst, I, isNoneA, cmpI, intsA, wp_bind, wp_pure, wp_getV, wp_getO, wp_setV, wp_setO, wp_newO, wp_lift, wp_ite, wp_fail, wp_onH, loB, put, str_eq, instD, dictD, setSlD, setSl, getSl, getD, putD, methD, lookS, storS, hOk, asList, asTuple, asDict, asSet, asDictR, chkT, kindT, Option.some.injEq, exists_eq_left', exists_eq_left, if_true, if_false, reduceIte, String.reduceEq, Option.join_some, true_and, and_true, List.getElem?_cons_zero, List.getElem?_cons_succ, reduceCtorEq, false_and, exists_false, Bool.false_eq_true, Bool.not_true, Bool.not_false, beq_self_eq_true, AVal.ref.injEq, AVal.int.injEq, e3]
    rw [e4]
    simp only [ifs, cmp, bin, asg, rets, exprs, ac, a0, fnc, meth, setI, forL, Mine.at', setAt, augAt, callM, callF, astar, named, isNot, nil', lst, I, isNoneA, cmpI, intsA, wp_bind, wp_pure, wp_getV, wp_getO, wp_setV, wp_setO, wp_newO, wp_lift, wp_ite, wp_fail, wp_onH, loB, put, str_eq, instD, dictD, setSlD, setSl, getSl, getD, putD, methD, lookS, storS, hOk, asList, asTuple, asDict, asSet, asDictR, chkT, kindT, Option.some.injEq, exists_eq_left', exists_eq_left, if_true, if_false, reduceIte, String.reduceEq, Option.join_some, true_and, and_true, List.getElem?_cons_zero, List.getElem?_cons_succ, reduceCtorEq, false_and, exists_false, Bool.false_eq_true, Bool.not_true, Bool.not_false, beq_self_eq_true, AVal.ref.injEq, AVal.int.injEq, List.length_nil, Nat.zero_le, e5, retOf]
    simp
  obtain ⟨v, H', e, rfl, rfl⟩ := h
  unfold fNew newD
  rw [e]; rfl

/-! objects of two kinds differ -/
noncomputable def tag : AObj → Nat
  | .list _ => 0
  | .tuple _ => 1
  | .dict _ _ => 2
  | .set _ => 3
  | .iter _ _ => 4
  | .nextm _ => 5
  | .inst C _ _ => C + 20
  | .sdict _ => 7
  | .range _ _ _ => 8
  | .items _ => 9
  | .values _ => 10
  | .dead => 11
  | .ddict _ => 12
theorem ne_tag {o o' : AObj} (h : tag o ≠ tag o') : o ≠ o' := fun q => h (q ▸ rfl)
/-! the sorter in the heap -/
noncomputable def fu {β : Type} (f : Int → β) (k : Int) (v : β) : Int → β := fun x => if x = k then v else f x
theorem fu_same {β : Type} {f : Int → β} {k : Int} {v : β} : fu f k v k = v := by simp [fu]
theorem fu_ne {β : Type} {f : Int → β} {k x : Int} {v : β} (h : x ≠ k) : fu f k v x = f x := by simp [fu, h]
structure Rep (H0 H : List AObj) (s sd d : Nat) (at' : List (Str × AVal)) (ks : List Int) (io su : Int → Nat) (np : Int → Int) (sc : Int → List Int) : Prop where
  over : Over H0 H
  hs : H[s]? = some (.inst 146 sd [])
  hsd : H[sd]? = some (.sdict at')
  gsd : H0.length ≤ sd
  gd : H0.length ≤ d
  hd : ∃ ep, H[d]? = some (.dict ep (ks.map fun k => (k, AVal.ref (io k))))
  node : ∀ k ∈ ks, ∃ e, H[io k]? = some (.inst 49 e [some (.int k), some (.int (np k)), some (.ref (su k))])
  succ : ∀ k ∈ ks, H[su k]? = some (.list ((sc k).map .int))
  inj : ∀ k ∈ ks, ∀ k' ∈ ks, su k = su k' → k = k'
  gio : ∀ k ∈ ks, H0.length ≤ io k
  gsu : ∀ k ∈ ks, H0.length ≤ su k
  nd : ks.Nodup
  out : ∀ k, k ∉ ks → np k = 0 ∧ sc k = []
theorem ne_obj {H : List AObj} {i j : Nat} {o o' : AObj} (h : H[i]? = some o) (h' : H[j]? = some o') (hne : o ≠ o') : j ≠ i := fun q => by subst q; rw [h] at h'; exact hne (Option.some.inj h')
/-- kept at a store at an index of another kind -/
theorem set_k {H : List AObj} {i j : Nat} {o o' x : AObj} (h : H[i]? = some o) (h' : H[j]? = some o') (hne : o ≠ o') : (H.set j x)[i]? = some o := set_ne h (ne_obj h h' hne)
section
variable {H0 H : List AObj} {s sd d : Nat} {at' : List (Str × AVal)} {ks : List Int} {io su : Int → Nat} {np : Int → Int} {sc : Int → List Int}
theorem Rep.app (R : Rep H0 H s sd d at' ks io su np sc) (l : List AObj) : Rep H0 (H ++ l) s sd d at' ks io su np sc :=
  ⟨R.over.trans (.app ..), get_app R.hs, get_app R.hsd, R.gsd, R.gd, R.hd.imp fun _ h => get_app h, fun k hk => (R.node k hk).imp fun _ h => get_app h, fun k hk => get_app (R.succ k hk), R.inj, R.gio, R.gsu, R.nd, R.out⟩
theorem Rep.setSd (R : Rep H0 H s sd d at' ks io su np sc) (a2 : List (Str × AVal)) : Rep H0 (H.set sd (.sdict a2)) s sd d a2 ks io su np sc :=
  ⟨R.over.set R.gsd _, set_k R.hs R.hsd (ne_tag (Nat.ne_of_beq_eq_false rfl)), set_get R.hsd, R.gsd, R.gd, R.hd.imp fun _ h => set_k h R.hsd (ne_tag (Nat.ne_of_beq_eq_false rfl)), fun k hk => (R.node k hk).imp fun _ h => set_k h R.hsd (ne_tag (Nat.ne_of_beq_eq_false rfl)),
    fun k hk => set_k (R.succ k hk) R.hsd (ne_tag (Nat.ne_of_beq_eq_false rfl)), R.inj, R.gio, R.gsu, R.nd, R.out⟩
theorem Rep.io_inj (R : Rep H0 H s sd d at' ks io su np sc) {k k' : Int} (h : k ∈ ks) (h' : k' ∈ ks) (e : io k = io k') : k = k' := by
  obtain ⟨e1, q1⟩ := R.node k h
  obtain ⟨e2, q2⟩ := R.node k' h'
  rw [e, q2] at q1
  cases q1; rfl
theorem Rep.setNp (R : Rep H0 H s sd d at' ks io su np sc) {k : Int} (hk : k ∈ ks) {e : Nat} (n : Int) : Rep H0 (H.set (io k) (.inst 49 e [some (.int k), some (.int n), some (.ref (su k))])) s sd d at' ks io su (fu np k n) sc := by
  obtain ⟨e1, q1⟩ := R.node k hk
  refine ⟨R.over.set (R.gio k hk) _, set_k R.hs q1 (ne_tag (Nat.ne_of_beq_eq_false rfl)), set_k R.hsd q1 (ne_tag (Nat.ne_of_beq_eq_false rfl)), R.gsd, R.gd, R.hd.imp fun _ h => set_k h q1 (ne_tag (Nat.ne_of_beq_eq_false rfl)), fun x hx => ?_,
    fun x hx => set_k (R.succ x hx) q1 (ne_tag (Nat.ne_of_beq_eq_false rfl)), R.inj, R.gio, R.gsu, R.nd, fun x hx => ?_⟩
  · by_cases q : x = k
    · subst q; exact ⟨e, by rw [fu_same]; exact set_get q1⟩
    · obtain ⟨e2, q2⟩ := R.node x hx
      exact ⟨e2, by rw [fu_ne q]; exact set_ne q2 fun h => q (R.io_inj hk hx h).symm⟩
  · have q : x ≠ k := fun q => hx (q ▸ hk)
    rw [fu_ne q]; exact R.out x hx
theorem Rep.setSc (R : Rep H0 H s sd d at' ks io su np sc) {k : Int} (hk : k ∈ ks) (l : List Int) : Rep H0 (H.set (su k) (.list (l.map .int))) s sd d at' ks io su np (fu sc k l) := by
  have q1 := R.succ k hk
  refine ⟨R.over.set (R.gsu k hk) _, set_k R.hs q1 (ne_tag (Nat.ne_of_beq_eq_false rfl)), set_k R.hsd q1 (ne_tag (Nat.ne_of_beq_eq_false rfl)), R.gsd, R.gd, R.hd.imp fun _ h => set_k h q1 (ne_tag (Nat.ne_of_beq_eq_false rfl)), fun x hx => (R.node x hx).imp fun _ h => set_k h q1 (ne_tag (Nat.ne_of_beq_eq_false rfl)),
    fun x hx => ?_, R.inj, R.gio, R.gsu, R.nd, fun x hx => ?_⟩
  · by_cases q : x = k
    · subst q; rw [fu_same]; exact set_get q1
    · rw [fu_ne q]; exact set_ne (R.succ x hx) fun h => q (R.inj k hk x hx h).symm
  · have q : x ≠ k := fun q => hx (q ▸ hk)
    rw [fu_ne q]; exact R.out x hx
theorem Rep.setL (R : Rep H0 H s sd d at' ks io su np sc) {i : Nat} {vs : List AVal} (hi : H[i]? = some (.list vs)) (hg : H0.length ≤ i) (hn : ∀ k ∈ ks, su k ≠ i) (l : List AVal) : Rep H0 (H.set i (.list l)) s sd d at' ks io su np sc :=
  ⟨R.over.set hg _, set_k R.hs hi (ne_tag (Nat.ne_of_beq_eq_false rfl)), set_k R.hsd hi (ne_tag (Nat.ne_of_beq_eq_false rfl)), R.gsd, R.gd, R.hd.imp fun _ h => set_k h hi (ne_tag (Nat.ne_of_beq_eq_false rfl)), fun x hx => (R.node x hx).imp fun _ h => set_k h hi (ne_tag (Nat.ne_of_beq_eq_false rfl)),
    fun x hx => set_ne (R.succ x hx) (Ne.symm (hn x hx)), R.inj, R.gio, R.gsu, R.nd, R.out⟩
theorem hasK_map {V : Type} {ks : List Int} {f : Int → V} {k : Int} : hasK (ks.map fun k => (k, f k)) k = true ↔ k ∈ ks := by
  unfold hasK
  rw [List.any_eq_true]
  constructor
  · rintro ⟨p, hp, e⟩
    obtain ⟨x, hx, rfl⟩ := List.mem_map.mp hp
    have : x = k := by simpa using e
    exact this ▸ hx
  · intro h; exact ⟨(k, f k), List.mem_map.mpr ⟨k, h, rfl⟩, by simp⟩
theorem lookA_map {V : Type} {ks : List Int} {f : Int → V} {k : Int} : lookA (ks.map fun k => (k, f k)) k = if k ∈ ks then some (f k) else none := by
  unfold lookA
  induction ks with
  | nil => rfl
  | cons x l ih =>
    rw [List.map_cons, List.find?_cons]
    by_cases h : x = k
    · subst h; simp
    · simp only [decide_eq_false h]
      rw [ih]
      have : (k ∈ x :: l) ↔ k ∈ l := by simp [Ne.symm h]
      simp only [this]
theorem Rep.new (R : Rep H0 H s sd d at' ks io su np sc) {k : Int} (hk : k ∉ ks) {ep : Nat} (he : H[d]? = some (.dict ep (ks.map fun k => (k, AVal.ref (io k))))) {ep' : Nat} :
    Rep H0 ((H ++ [AObj.sdict [], AObj.inst 49 H.length [some (.int k), some (.int 0), some (.ref (H.length + 2))], AObj.list []]).set d (.dict ep' (storA (ks.map fun k => (k, AVal.ref (io k))) k (.ref (H.length + 1))))) s sd d at' (ks ++ [k]) (fu io k (H.length + 1)) (fu su k (H.length + 2)) np sc := by
  have hkf : hasK (ks.map fun k => (k, AVal.ref (io k))) k = false := by
    cases q : hasK (ks.map fun k => (k, AVal.ref (io k))) k with
    | false => rfl
    | true => exact absurd (hasK_map.mp q) hk
  obtain ⟨o1, o2⟩ := R.out k hk
  have hlt := (List.getElem?_eq_some_iff.mp he).1
  have he' := get_app (l := [AObj.sdict [], .inst 49 H.length [some (.int k), some (.int 0), some (.ref (H.length + 2))], .list []]) he
  have R' := R.app [AObj.sdict [], .inst 49 H.length [some (.int k), some (.int 0), some (.ref (H.length + 2))], .list []]
  have n1 : (H ++ [AObj.sdict [], .inst 49 H.length [some (.int k), some (.int 0), some (.ref (H.length + 2))], .list []])[H.length + 1]? = some (.inst 49 H.length [some (.int k), some (.int 0), some (.ref (H.length + 2))]) := by simp
  have n2 : (H ++ [AObj.sdict [], .inst 49 H.length [some (.int k), some (.int 0), some (.ref (H.length + 2))], .list []])[H.length + 2]? = some (.list []) := by simp
  have hov := R.over.1
  have sulen : ∀ x ∈ ks, su x < H.length := fun x hx => (List.getElem?_eq_some_iff.mp (R.succ x hx)).1
  have kne : ∀ x ∈ ks, x ≠ k := fun x hx q => hk (q ▸ hx)
  refine ⟨R'.over.set R.gd _, set_k R'.hs he' (ne_tag (Nat.ne_of_beq_eq_false rfl)), set_k R'.hsd he' (ne_tag (Nat.ne_of_beq_eq_false rfl)), R.gsd, R.gd, ⟨ep', ?_⟩, fun x hx => ?_, fun x hx => ?_, fun x hx y hy q => ?_, fun x hx => ?_, fun x hx => ?_, ?_, fun x hx => ?_⟩
  · rw [set_get he']
    unfold storA
    rw [if_neg (by rw [hkf]; exact Bool.false_ne_true), List.map_append, List.map_cons, List.map_nil, fu_same]
    have : (ks.map fun k => (k, AVal.ref (io k))) = ks.map fun x => (x, AVal.ref (fu io k (H.length + 1) x)) := List.map_congr_left fun x hx => by rw [fu_ne (kne x hx)]
    rw [this]
  · rcases List.mem_append.mp hx with hx | hx
    · obtain ⟨e, q⟩ := R'.node x hx
      refine ⟨e, ?_⟩
      rw [fu_ne (kne x hx), fu_ne (kne x hx)]
      exact set_k q he' (ne_tag (Nat.ne_of_beq_eq_false rfl))
    · have := List.mem_singleton.mp hx
      subst this
      refine ⟨H.length, ?_⟩
      rw [fu_same, fu_same, o1]
      exact set_k n1 he' (ne_tag (Nat.ne_of_beq_eq_false rfl))
  · rcases List.mem_append.mp hx with hx | hx
    · rw [fu_ne (kne x hx)]; exact set_k (R'.succ x hx) he' (ne_tag (Nat.ne_of_beq_eq_false rfl))
    · have := List.mem_singleton.mp hx
      subst this
      rw [fu_same, o2]
      exact set_k n2 he' (ne_tag (Nat.ne_of_beq_eq_false rfl))
  · rcases List.mem_append.mp hx with hx | hx <;> rcases List.mem_append.mp hy with hy | hy
    · rw [fu_ne (kne x hx), fu_ne (kne y hy)] at q; exact R.inj x hx y hy q
    · rw [List.mem_singleton.mp hy, fu_ne (kne x hx), fu_same] at q
      have := sulen x hx; omega
    · rw [List.mem_singleton.mp hx, fu_ne (kne y hy), fu_same] at q
      have := sulen y hy; omega
    · rw [List.mem_singleton.mp hx, List.mem_singleton.mp hy]
  · rcases List.mem_append.mp hx with hx | hx
    · rw [fu_ne (kne x hx)]; exact R.gio x hx
    · rw [List.mem_singleton.mp hx, fu_same]; omega
  · rcases List.mem_append.mp hx with hx | hx
    · rw [fu_ne (kne x hx)]; exact R.gsu x hx
    · rw [List.mem_singleton.mp hx, fu_same]; omega
  · exact List.nodup_append.mpr ⟨R.nd, by simp, fun x hx y hy => by rw [List.mem_singleton.mp hy]; exact kne x hx⟩
  · exact R.out x fun h => hx (List.mem_append_left _ h)
end
end Mine
end

section
open PySem PySem.W PyProof.Rows
set_option autoImplicit false
set_option linter.unusedVariables false
set_option linter.unusedSimpArgs false
namespace Mine
/-! single steps as equations: small terms -/
theorem wp_ev {α : Type} {d : M α} {σ σ' : St} {a : α} {Q : α → St → Prop} (h : d σ = some (a, σ')) : Wp d σ Q ↔ Q a σ' := by
  constructor
  · rintro ⟨b, σ₁, e, q⟩; rw [h] at e; cases e; exact q
  · intro q; exact ⟨a, σ', h, q⟩
theorem wp_eq {α : Type} {d : M α} {σ σ₁ : St} {v : α} (h : Wp d σ fun a σ' => a = v ∧ σ' = σ₁) : d σ = some (v, σ₁) := by
  obtain ⟨a, σ', e, rfl, rfl⟩ := h
  exact e
theorem wp_s {d d' : M AFlow} {σ σ₁ : St} {Q : AFlow → St → Prop} (h : d σ = some (.next, σ₁)) (k : Wp d' σ₁ Q) : Wp (seq d d') σ Q := wp_seq ⟨_, _, h, rfl, k⟩
theorem wp_l {α : Type} {d : M α} {σ σ₁ : St} {a : α} {Q : α → St → Prop} (h : d σ = some (a, σ₁)) (k : Q a σ₁) : Wp d σ Q := ⟨_, _, h, k⟩
theorem wp_setVb {d : M AFlow} {x : Str} {v : AVal} {lo : Lo} {H : List AObj} {Q : AFlow → St → Prop} (k : Wp d ⟨put lo x v, H⟩ Q) : Wp (do setV x v; d) ⟨lo, H⟩ Q := wp_bind.mpr (wp_setV.mpr k)
theorem wp_forL {x : Str} {n : Nat} {d : M AVal} {b : M AFlow} {σ σ₁ : St} {v : AVal} {nx : Nx} {Q : AFlow → St → Prop} (h : d σ = some (v, σ₁)) (h1 : mkNx v σ₁ = some (nx, σ₁)) (k : Wp (dLoop nx (setV x) b n 0) σ₁ Q) : Wp (forL x n d b) σ Q := by
  unfold forL; rw [wp_bind, wp_ev h, wp_bind, wp_ev h1]; exact k
section
variable {lo : Lo} {H : List AObj} {C i d : Nat} {sl : List (Option AVal)} {kvs : List (Str × AVal)} {nm x : Str} {u : AVal} {j : Nat}
theorem ev_getD (h : H[i]? = some (.inst C d sl)) (h2 : H[d]? = some (.sdict kvs)) (h3 : lookS kvs nm = some u) (h4 : hOk u = true) : getD C nm (.ref i) ⟨lo, H⟩ = some (u, ⟨lo, H⟩) := by
  refine wp_eq ?_
  simp only [wp_bind, wp_getO, wp_pure, wp_ite, wp_lift, getD, instD, dictD, h, h2, h3, h4, Option.some.injEq, exists_eq_left', if_true, and_self]
theorem ev_atD (l : lo x = some (.ref i)) (h : H[i]? = some (.inst C d sl)) (h2 : H[d]? = some (.sdict kvs)) (h3 : lookS kvs nm = some u) (h4 : hOk u = true) : Mine.at' (getD C nm) (getV x) ⟨lo, H⟩ = some (u, ⟨lo, H⟩) := by
  unfold Mine.at'; rw [ev_bind (ev_getV l)]; exact ev_getD h h2 h3 h4
theorem ev_getSl (h : H[i]? = some (.inst C d sl)) (h3 : sl[j]?.join = some u) (h4 : hOk u = true) : getSl C j (.ref i) ⟨lo, H⟩ = some (u, ⟨lo, H⟩) := by
  refine wp_eq ?_
  simp only [wp_bind, wp_getO, wp_pure, wp_ite, wp_lift, getSl, instD, h, h3, h4, Option.some.injEq, exists_eq_left', if_true, and_self]
theorem ev_atS (l : lo x = some (.ref i)) (h : H[i]? = some (.inst C d sl)) (h3 : sl[j]?.join = some u) (h4 : hOk u = true) : Mine.at' (getSl C j) (getV x) ⟨lo, H⟩ = some (u, ⟨lo, H⟩) := by
  unfold Mine.at'; rw [ev_bind (ev_getV l)]; exact ev_getSl h h3 h4
theorem ev_setSlD (h : H[i]? = some (.inst C d sl)) : setSlD C j (.ref i) u ⟨lo, H⟩ = some ((), ⟨lo, H.set i (.inst C d (setSl sl j u))⟩) := by
  refine wp_eq ?_
  simp only [wp_bind, wp_getO, wp_pure, wp_ite, wp_setO, setSlD, instD, h, Option.some.injEq, exists_eq_left', if_true, and_self]
theorem ev_putD (h : H[i]? = some (.inst C d sl)) (h2 : H[d]? = some (.sdict kvs)) (hl : kvs.length ≤ 900) : putD C nm (.ref i) u ⟨lo, H⟩ = some ((), ⟨lo, H.set d (.sdict (storS kvs nm u))⟩) := by
  refine wp_eq ?_
  simp only [wp_bind, wp_getO, wp_pure, wp_ite, wp_setO, putD, instD, dictD, h, h2, if_pos hl, Option.some.injEq, exists_eq_left', if_true, and_self]
theorem ev_methD (h : H[i]? = some (.inst C d sl)) (h2 : H[d]? = some (.sdict kvs)) (h3 : lookS kvs nm = none) : methD C nm (.ref i) ⟨lo, H⟩ = some ((), ⟨lo, H⟩) := by
  refine wp_eq ?_
  simp only [wp_bind, wp_getO, wp_pure, wp_ite, methD, instD, dictD, h, h2, h3, Option.some.injEq, exists_eq_left', if_true, and_self]
theorem ev_callM {ds : M (List AVal)} {vs : List AVal} {D : List AVal → List AObj → Option (AVal × List AObj)} {H' : List AObj} (l : lo x = some (.ref i)) (h : H[i]? = some (.inst C d sl)) (h2 : H[d]? = some (.sdict kvs)) (h3 : lookS kvs nm = none)
    (h4 : ds ⟨lo, H⟩ = some (vs, ⟨lo, H⟩)) (h5 : D (.ref i :: vs) H = some (u, H')) : callM C nm (getV x) ds D ⟨lo, H⟩ = some (u, ⟨lo, H'⟩) := by
  unfold callM
  rw [ev_bind (ev_getV l), ev_bind (ev_methD h h2 h3), ev_bind h4]
  unfold onH; rw [h5]; rfl
end
section
variable {σ σ₁ σ₂ σ₃ σ₄ σ₅ : St} {x : AVal} {u a b z : AVal}
theorem ev_setAt {D : AVal → AVal → M Unit} {o v : M AVal} (h1 : v σ = some (u, σ₁)) (h2 : o σ₁ = some (x, σ₂)) (h3 : D x u σ₂ = some ((), σ₃)) : setAt D o v σ = some (.next, σ₃) := by
  unfold setAt; rw [ev_bind h1, ev_bind h2, ev_bind h3]; rfl
theorem ev_augAt {D : AVal → M AVal} {D' : AVal → AVal → M Unit} {f : AVal → AVal → M AVal} {o v : M AVal} (h1 : o σ = some (x, σ₁)) (h2 : D x σ₁ = some (a, σ₂)) (h3 : v σ₂ = some (b, σ₃)) (h4 : f a b σ₃ = some (z, σ₄)) (h5 : D' x z σ₄ = some ((), σ₅)) : augAt D D' f o v σ = some (.next, σ₅) := by
  unfold augAt; rw [ev_bind h1, ev_bind h2, ev_bind h3, ev_bind h4, ev_bind h5]; rfl
theorem ev_guard0 {d : M AVal} {e : M AFlow} (h : d σ = some (.none, σ)) : ifs (cmp isNot d (pure .none)) e nil' σ = some (.next, σ) := by
  rw [ev_ifF (σ₁ := σ) (by rw [ev_cmp h ev_pure]; rfl)]; rfl
theorem ev_guard1 {d : M AVal} {e : M AFlow} {i : Nat} (h : d σ = some (.ref i, σ₁)) : ifs (cmp isNoneA d (pure .none)) e nil' σ = some (.next, σ₁) := by
  rw [ev_ifF (σ₁ := σ₁) (by rw [ev_cmp h ev_pure]; rfl)]; rfl
theorem ev_named {x : Str} {d : M AVal} {v : AVal} (h : d σ = some (v, σ₁)) : named x d σ = some (v, ⟨put σ₁.lo x v, σ₁.H⟩) := by
  unfold named; rw [ev_bind h]; rfl
theorem ev_dget {a : Nat} {i : Int} {ep : Nat} {kvs : List (Int × AVal)} (h : σ.H[a]? = some (.dict ep kvs)) : getD1 [.ref a, .int i] σ = some ((lookA kvs i).getD .none, σ) := by
  unfold getD1; dsimp only
  have e : asDictR (.ref a) σ = some ((a, kvs), σ) := by unfold asDictR; dsimp only; rw [ev_bind (ev_getO h)]; rfl
  rw [ev_bind e]; rfl
theorem ev_lenT {a : Nat} {vs : List AVal} (h : σ.H[a]? = some (.tuple vs)) (hl : vs.length ≤ 1000) : lenA [.ref a] σ = some (.int vs.length, σ) := by
  unfold lenA; dsimp only; rw [ev_bind (ev_getO h)]; dsimp only; rw [if_pos hl]; rfl
theorem ev_tuple {a : Nat} {vs : List AVal} (h : σ.H[a]? = some (.list vs)) (hl : vs.length ≤ 1000) : tupleD [.ref a] σ = some (.ref σ.H.length, ⟨σ.lo, σ.H ++ [.tuple vs]⟩) := by
  unfold tupleD; dsimp only
  have e : asList (.ref a) σ = some ((a, vs), σ) := by unfold asList; dsimp only; rw [ev_bind (ev_getO h)]; rfl
  rw [ev_bind e]; dsimp only; rw [if_pos hl]; rfl
theorem ev_clear {a : Nat} {vs : List AVal} (h : σ.H[a]? = some (.list vs)) (hl : vs.length ≤ 1000) : clearD [.ref a] σ = some (.none, ⟨σ.lo, σ.H.set a (.list [])⟩) := by
  unfold clearD; dsimp only; rw [ev_bind (ev_getO h)]; dsimp only; rw [if_pos hl]; rfl
theorem ev_pop {a : Nat} {vs : List AVal} {v : AVal} (h : σ.H[a]? = some (.list (vs ++ [v]))) (hl : (vs ++ [v]).length ≤ 1000) : popD [.ref a] σ = some (v, ⟨σ.lo, σ.H.set a (.list vs)⟩) := by
  unfold popD; dsimp only; rw [ev_bind (ev_getO h)]; dsimp only
  rw [if_pos hl, ev_bind (a := v) (σ₁ := σ) (by have : (vs ++ [v])[(vs ++ [v]).length - 1]? = some v := by simp
                                                rw [this]; rfl), List.dropLast_concat]; rfl
theorem ev_extend {i j : Nat} {xs ys : List AVal} (h : σ.H[i]? = some (.list xs)) (h2 : σ.H[j]? = some (.tuple ys)) (hl : xs.length + ys.length ≤ 1000) : extendD [.ref i, .ref j] σ = some (.none, ⟨σ.lo, σ.H.set i (.list (xs ++ ys))⟩) := by
  unfold extendD; dsimp only; rw [ev_bind (ev_getO h)]; dsimp only; rw [ev_bind (ev_getO h2)]; dsimp only; rw [if_pos hl]; rfl
theorem ev_starT {j : Nat} {ys : List AVal} (h2 : σ.H[j]? = some (.tuple ys)) (hl : ys.length ≤ 1000) : starD (.ref j) σ = some (ys, σ) := by
  unfold starD; dsimp only; rw [ev_bind (ev_getO h2)]; dsimp only; rw [if_pos hl]; rfl
theorem ev_starL {j : Nat} {ys : List AVal} (h2 : σ.H[j]? = some (.list ys)) (hl : ys.length ≤ 1000) : starD (.ref j) σ = some (ys, σ) := by
  unfold starD; dsimp only; rw [ev_bind (ev_getO h2)]; dsimp only; rw [if_pos hl]; rfl
theorem ev_astar {d : M AVal} {ds : M (List AVal)} {v : AVal} {us vs : List AVal} (h1 : d σ = some (v, σ₁)) (h2 : starD v σ₁ = some (us, σ₂)) (h3 : ds σ₂ = some (vs, σ₃)) : astar d ds σ = some (us ++ vs, σ₃) := by
  unfold astar; rw [ev_bind h1, ev_bind h2, ev_bind h3]; rfl
end
section
variable {lo lo' f : Lo} {H H' : List AObj} {σ : St} {x y z : Str} {v a b c : AVal}
theorem ev_asgN {d : M AVal} (h : d σ = some (v, ⟨lo, H⟩)) : asg x d σ = some (.next, ⟨put lo x v, H⟩) := ev_asg h
theorem ev_namedN {d : M AVal} (h : d σ = some (v, ⟨lo, H⟩)) : named x d σ = some (v, ⟨put lo x v, H⟩) := ev_named h
theorem ev_getP : getV x ⟨put lo x v, H⟩ = some (v, ⟨put lo x v, H⟩) := ev_getV put_same
theorem lo1a : loB [(x, a)] f x = some a := put_same
theorem lo2a (h : x ≠ y) : loB [(x, a), (y, b)] f x = some a := by
  show put (put f x a) y b x = _
  rw [put_other h, put_same]
theorem lo2b : loB [(x, a), (y, b)] f y = some b := put_same
theorem lo3a (h : x ≠ y) (h' : x ≠ z) : loB [(x, a), (y, b), (z, c)] f x = some a := by
  show put (put (put f x a) y b) z c x = _
  rw [put_other h', put_other h, put_same]
theorem lo3b (h' : y ≠ z) : loB [(x, a), (y, b), (z, c)] f y = some b := by
  show put (put (put f x a) y b) z c y = _
  rw [put_other h', put_same]
theorem lo3c : loB [(x, a), (y, b), (z, c)] f z = some c := put_same
theorem ev_getN (h : lo x = some v) : getV x ⟨lo, H⟩ = some (v, ⟨lo, H⟩) := ev_getV h
theorem ev_appendN {i : Nat} {vs : List AVal} (h : H[i]? = some (.list vs)) (hl : vs.length ≤ 1000) : appendD [.ref i, v] ⟨lo, H⟩ = some (.none, ⟨lo, H.set i (.list (vs ++ [v]))⟩) := ev_append h hl
end
section
variable {lo : Lo} {H : List AObj} {σ : St} {x : Str}
theorem ev_truthL {i : Nat} {xs : List AVal} (h : H[i]? = some (.list xs)) (hl : xs.length ≤ 1000) : truthA (.ref i) ⟨lo, H⟩ = some (!xs.isEmpty, ⟨lo, H⟩) := by
  unfold truthA; dsimp only; rw [ev_bind (ev_getO h)]; dsimp only; rw [if_pos hl]; rfl
theorem ev_try1 {df : M AVal} {dh : M AFlow} {m i l j : Nat} {xs : List AVal} {u : AVal} (h : df σ = some (.ref m, ⟨lo, H⟩)) (hm : H[m]? = some (.nextm i)) (hi : H[i]? = some (.iter l j)) (hl : H[l]? = some (.list xs)) (hu : xs[j]? = some u) :
    dTryNext df x dh σ = some (.brk, ⟨put lo x u, H.set i (.iter l (j + 1))⟩) := by
  unfold dTryNext
  rw [ev_bind h]; unfold tryTail; dsimp only; rw [ev_bind (ev_getO hm)]; dsimp only; rw [ev_bind (ev_getO hi)]; dsimp only; rw [ev_bind (ev_getO hl)]; dsimp only; rw [hu]; rfl
theorem ev_try0 {df : M AVal} {dh : M AFlow} {m i l j : Nat} {xs : List AVal} (h : df σ = some (.ref m, ⟨lo, H⟩)) (hm : H[m]? = some (.nextm i)) (hi : H[i]? = some (.iter l j)) (hl : H[l]? = some (.list xs)) (hu : xs[j]? = none) :
    dTryNext df x dh σ = dh ⟨lo, H.set i .dead⟩ := by
  unfold dTryNext
  rw [ev_bind h]; unfold tryTail; dsimp only; rw [ev_bind (ev_getO hm)]; dsimp only; rw [ev_bind (ev_getO hi)]; dsimp only; rw [ev_bind (ev_getO hl)]; dsimp only; rw [hu]; rfl
theorem ev_subLast {a : Nat} {vs : List AVal} {v : AVal} (h : H[a]? = some (.list (vs ++ [v]))) (hl : (vs ++ [v]).length ≤ 1000) : subA (.ref a) (.int (-1)) ⟨lo, H⟩ = some (v, ⟨lo, H⟩) := by
  unfold subA; dsimp only; rw [ev_bind (ev_getO h)]; dsimp only
  have hg : (vs ++ [v])[(vs ++ [v]).length - 1]? = some v := by simp
  rw [if_neg (by omega), if_pos ⟨rfl, by simp, hl⟩, hg]; rfl
theorem ev_inSet {i : Int} {a : Nat} {ks : List Int} (h : H[a]? = some (.set ks)) : inA (.int i) (.ref a) ⟨lo, H⟩ = some (decide (i ∈ ks), ⟨lo, H⟩) := by
  unfold inA; dsimp only; rw [ev_bind (ev_getO h)]; rfl
theorem ev_addS {a : Nat} {i : Int} {ks : List Int} (h : H[a]? = some (.set ks)) (hl : ks.length ≤ 1000) (hi : i ∉ ks) : addD [.ref a, .int i] ⟨lo, H⟩ = some (.none, ⟨lo, H.set a (.set (ks ++ [i]))⟩) := by
  unfold addD; dsimp only; rw [ev_bind (ev_getO h)]; dsimp only; rw [if_pos hl, if_neg hi]; rfl
theorem ev_nextA {i l k : Nat} (h : H[i]? = some (.iter l k)) : nextA (.ref i) ⟨lo, H⟩ = some (.ref H.length, ⟨lo, H ++ [.nextm i]⟩) := by
  unfold nextA; dsimp only; rw [ev_bind (ev_getO h)]; rfl
theorem wp_while2 {dt : M Bool} {db de : M AFlow} (Inv : Nat → St → Prop) {Q : AFlow → St → Prop}
    (hs : ∀ j σ, Inv j σ → (∃ σ₁, dt σ = some (false, σ₁) ∧ Wp de σ₁ Q) ∨ ∃ σ₁, dt σ = some (true, σ₁) ∧ Wp db σ₁ fun f σ₂ => match f with | .brk => Q .next σ₂ | .ret v => Q (.ret v) σ₂ | _ => ∃ i, i < j ∧ Inv i σ₂) :
    ∀ (n j : Nat) (σ : St), j < n → Inv j σ → Wp (dWhile dt db de n) σ Q :=
  wp_while Inv fun j σ h => by
    rcases hs j σ h with ⟨σ₁, e, k⟩ | ⟨σ₁, e, k⟩
    · exact ⟨_, _, e, k⟩
    · exact ⟨_, _, e, k⟩
end
theorem ev_range {lo : Lo} {H : List AObj} {x : Str} {n : Int} (h : lo x = some (.int n)) : fnc rangeD (ac (getV x) a0) ⟨lo, H⟩ = some (.ref H.length, ⟨lo, H ++ [.range 0 n 1]⟩) := by
  rw [ev_fnc (ev_ac (ev_getN h) ev_a0)]; rfl
end Mine
end

section
open PySem PySem.W PyProof.Rows
set_option autoImplicit false
set_option linter.unusedVariables false
set_option linter.unusedSimpArgs false
namespace Mine
/-- tuples are kept -/
noncomputable def KT (H H' : List AObj) : Prop := ∀ (i : Nat) vs, H[i]? = some (.tuple vs) → H'[i]? = some (.tuple vs)
theorem KT.refl (H : List AObj) : KT H H := fun _ _ h => h
theorem KT.trans {a b c : List AObj} (x : KT a b) (y : KT b c) : KT a c := fun i vs h => y i vs (x i vs h)
theorem KT.app (H l : List AObj) : KT H (H ++ l) := fun _ _ h => get_app h
theorem KT.set {H : List AObj} {j : Nat} {o o' : AObj} (h : H[j]? = some o) (hn : ∀ vs, o ≠ .tuple vs) : KT H (H.set j o') := fun i vs e => set_k e h fun q => hn vs q.symm
section
variable {H0 H : List AObj} {s sd d : Nat} {at' : List (Str × AVal)} {ks : List Int} {io su : Int → Nat} {np : Int → Int} {sc : Int → List Int}
theorem gni_run (R : Rep H0 H s sd d at' ks io su np sc) (hat : lookS at' "_node2info" = some (.ref d)) (hl : ks.length ≤ 1000) {k : Int} :
    WF (fGni [.ref s, .int k]) H fun v H' => ∃ ks' io' su', v = .ref (io' k) ∧ (∀ x, x ∈ ks' ↔ x ∈ ks ∨ x = k) ∧ (∀ x ∈ ks, io' x = io x) ∧ ks'.length ≤ ks.length + 1 ∧ Rep H0 H' s sd d at' ks' io' su' np sc ∧ KT H H' := by
  unfold fGni
  refine wf_run (l := [("self", .ref s), ("node", .int k)]) rfl ?_
  unfold dGni
  refine (let Q0 : AFlow → St → Prop := _; (?_ : Wp _ _ Q0))
  have l1 : loB [("self", .ref s), ("node", .int k)] (fun _ => none) "self" = some (.ref s) := lo2a (by decide)
  have l2 : loB [("self", .ref s), ("node", .int k)] (fun _ => none) "node" = some (.int k) := lo2b
  generalize loB [("self", .ref s), ("node", .int k)] (fun _ => none) = lo at l1 l2
  obtain ⟨ep, hd⟩ := R.hd
  have hg : meth "dict" (Mine.at' (getD 146 "_node2info") (getV "self")) getD1 (ac (getV "node") a0) ⟨lo, H⟩ = some ((if k ∈ ks then some (AVal.ref (io k)) else none).getD .none, ⟨lo, H⟩) := by
    rw [ev_meth (ev_atD l1 R.hs R.hsd hat rfl) hd rfl (ev_ac (ev_getV l2) ev_a0), ev_dget hd, lookA_map]
  by_cases hk : k ∈ ks
  · rw [if_pos hk] at hg
    refine wp_s (ev_guard1 (ev_namedN hg)) (wp_l (ev_rets ev_getP) ?_)
    exact ⟨_, rfl, ks, io, su, rfl, fun x => ⟨.inl, fun h => h.elim id fun e => e ▸ hk⟩, fun _ _ => rfl, Nat.le_succ _, R, .refl _⟩
  · rw [if_neg hk] at hg
    have R' := R.app [AObj.sdict [], .inst 49 H.length [some (.int k), some (.int 0), some (.ref (H.length + 2))], .list []]
    have hd' := get_app (l := [AObj.sdict [], .inst 49 H.length [some (.int k), some (.int 0), some (.ref (H.length + 2))], .list []]) hd
    have hlen : (ks.map fun k => (k, AVal.ref (io k))).length ≤ 1000 := by simpa using hl
    have m1 : put lo "result" .none "self" = some (.ref s) := (put_other (by decide)).trans l1
    have m2 : put lo "result" .none "node" = some (.int k) := (put_other (by decide)).trans l2
    refine wp_s (σ₁ := ⟨put (put lo "result" .none) "result" (.ref (H.length + 1)), (H ++ [AObj.sdict [], .inst 49 H.length [some (.int k), some (.int 0), some (.ref (H.length + 2))], .list []]).set d (.dict (if hasK (ks.map fun k => (k, AVal.ref (io k))) k then ep else ep + 1) (storA (ks.map fun k => (k, AVal.ref (io k))) k (.ref (H.length + 1))))⟩) ?_ (wp_l (ev_rets ev_getP) ?_)
    · rw [ev_ifT (σ₁ := ⟨put lo "result" .none, H⟩) (by rw [ev_cmp (ev_namedN hg) ev_pure]; rfl)]
      rw [ev_bind (ev_callF (ev_ac (ev_getV m2) ev_a0) new_run), ev_bind (ev_atD m1 R'.hs R'.hsd hat rfl), ev_bind (ev_getV m2), ev_bind (ev_setA hd' hlen)]; rfl
    · exact ⟨_, rfl, ks ++ [k], fu io k (H.length + 1), fu su k (H.length + 2), by rw [fu_same], fun x => by simp, fun x hx => fu_ne (fun q => hk (q ▸ hx)), by simp, R.new hk hd, (KT.app _ _).trans (.set hd' fun _ => ne_tag (Nat.ne_of_beq_eq_false rfl))⟩
theorem take_snoc {l : List Int} {j : Nat} (h : j < l.length) : l.take (j + 1) = l.take j ++ [l[j]] := by rw [List.take_add_one, List.getElem?_eq_getElem h]; rfl
theorem mem_take1 {l : List Int} {j : Nat} (h : j < l.length) {y : Int} : y ∈ l.take (j + 1) ↔ y ∈ l.take j ∨ y = l[j] := by rw [take_snoc h, List.mem_append, List.mem_singleton]
theorem nx_tuple {t j : Nat} {l : List Int} {H : List AObj} (h : H[t]? = some (.tuple (l.map .int))) (hj : j < l.length) : nxTuple t j H = some (some (.int l[j])) := by
  unfold nxTuple; rw [h]; dsimp only; rw [List.getElem?_map, List.getElem?_eq_getElem hj]; rfl
theorem nx_tupleE {t : Nat} {l : List Int} {H : List AObj} (h : H[t]? = some (.tuple (l.map .int))) : nxTuple t l.length H = some none := by
  unfold nxTuple; rw [h]; dsimp only; rw [List.getElem?_eq_none (by simp)]
theorem nx_list {t j : Nat} {l : List Int} {H : List AObj} (h : H[t]? = some (.list (l.map .int))) (hj : j < l.length) : nxList t j H = some (some (.int l[j])) := by
  unfold nxList; rw [h]; dsimp only; rw [List.getElem?_map, List.getElem?_eq_getElem hj]; rfl
theorem nx_listE {t : Nat} {l : List Int} {H : List AObj} (h : H[t]? = some (.list (l.map .int))) : nxList t l.length H = some none := by
  unfold nxList; rw [h]; dsimp only; rw [List.getElem?_eq_none (by simp)]
theorem add_run (R : Rep H0 H s sd d at' ks io su np sc) (hat : lookS at' "_node2info" = some (.ref d)) (hat2 : lookS at' "_ready_nodes" = some .none) (hat3 : lookS at' "_get_nodeinfo" = none) {x : Int} {preds : List Int} (hl : ks.length ≤ 60) (hp : preds.length ≤ 6) (hnd : preds.Nodup)
    (hsc : ∀ y, (sc y).length ≤ 50) :
    WF (fAddN (.ref s :: .int x :: preds.map .int)) H fun v H' => ∃ ks' io' su', v = .none ∧ (∀ y, y ∈ ks' ↔ y ∈ ks ∨ y = x ∨ y ∈ preds) ∧ ks'.length ≤ ks.length + preds.length + 1 ∧
      Rep H0 H' s sd d at' ks' io' su' (fu np x (np x + preds.length)) (fun y => if y ∈ preds then sc y ++ [x] else sc y) := by
  unfold fAddN
  refine wf_run (l := [("self", .ref s), ("node", .int x), ("predecessors", .ref H.length)]) (H₁ := H ++ [.tuple (preds.map .int)]) (by unfold bdS2; dsimp only; rw [if_pos (by simp; omega)]) ?_
  unfold dAdd
  have R1 := R.app [.tuple (preds.map .int)]
  have ht : (H ++ [AObj.tuple (preds.map .int)])[H.length]? = some (.tuple (preds.map .int)) := get_new
  refine (let Q0 : AFlow → St → Prop := _; (?_ : Wp _ _ Q0))
  have l1 : loB [("self", .ref s), ("node", .int x), ("predecessors", .ref H.length)] (fun _ => none) "self" = some (.ref s) := lo3a (by decide) (by decide)
  have l2 : loB [("self", .ref s), ("node", .int x), ("predecessors", .ref H.length)] (fun _ => none) "node" = some (.int x) := lo3b (by decide)
  have l3 : loB [("self", .ref s), ("node", .int x), ("predecessors", .ref H.length)] (fun _ => none) "predecessors" = some (.ref H.length) := lo3c
  generalize loB [("self", .ref s), ("node", .int x), ("predecessors", .ref H.length)] (fun _ => none) = lo at l1 l2 l3
  generalize H ++ [AObj.tuple (preds.map .int)] = H1 at R1 ht
  generalize H.length = t at ht l3
  refine wp_s (ev_guard0 (ev_atD l1 R1.hs R1.hsd hat2 rfl)) ?_
  obtain ⟨v, H2, eC, ks2, io2, su2, rfl, m2, i2, l2', R2, K2⟩ := gni_run R1 hat (k := x) (by omega)
  refine wp_s (ev_asgN (ev_callM l1 R1.hs R1.hsd hat3 (ev_ac (ev_getV l2) ev_a0) eC)) ?_
  have ht2 := K2 _ _ ht
  have hx2 : x ∈ ks2 := (m2 x).mpr (.inr rfl)
  obtain ⟨e2, n2⟩ := R2.node x hx2
  have hpl : (preds.map AVal.int).length ≤ 1000 := by simp; omega
  have k1 : put lo "nodeinfo" (.ref (io2 x)) "self" = some (.ref s) := (put_other (by decide)).trans l1
  have k2 : put lo "nodeinfo" (.ref (io2 x)) "node" = some (.int x) := (put_other (by decide)).trans l2
  have k3 : put lo "nodeinfo" (.ref (io2 x)) "predecessors" = some (.ref t) := (put_other (by decide)).trans l3
  have k4 : put lo "nodeinfo" (.ref (io2 x)) "nodeinfo" = some (.ref (io2 x)) := put_same
  generalize put lo "nodeinfo" (.ref (io2 x)) = lo1 at k1 k2 k3 k4
  refine wp_s (ev_augAt (ev_getV k4) (ev_getSl n2 rfl rfl) (by rw [ev_fnc (ev_ac (ev_getV k3) ev_a0)]; exact ev_lenT ht2 hpl) (ev_ints rfl) (ev_setSlD n2)) ?_
  have R3 := R2.setNp hx2 (e := e2) (np x + ((preds.map AVal.int).length : Nat))
  have ht3 := (KT.set (o' := .inst 49 e2 [some (.int x), some (.int (np x + ((preds.map AVal.int).length : Nat))), some (.ref (su2 x))]) n2 fun _ => ne_tag (Nat.ne_of_beq_eq_false rfl)) _ _ ht2
  rw [show setSl [some (AVal.int x), some (AVal.int (np x)), some (AVal.ref (su2 x))] 1 (.int (np x + ((preds.map AVal.int).length : Nat))) = [some (.int x), some (.int (np x + ((preds.map AVal.int).length : Nat))), some (.ref (su2 x))] from rfl]
  rw [List.length_map] at R3 ht3 ⊢
  generalize H2.set _ _ = H3 at R3 ht3
  refine wp_forL (ev_getV k3) (mk_tuple ht3) ((wp_loop (fun j σ => σ.lo "self" = some (.ref s) ∧ σ.lo "node" = some (.int x) ∧ σ.H[t]? = some (.tuple (preds.map .int)) ∧ ∃ ks' io' su', (∀ y, y ∈ ks' ↔ y ∈ ks2 ∨ y ∈ preds.take j) ∧ ks'.length ≤ ks2.length + j ∧
    Rep H0 σ.H s sd d at' ks' io' su' (fu np x (np x + preds.length)) (fun y => if y ∈ preds.take j then sc y ++ [x] else sc y)) preds.length ?_ ?_ preds.length 0 100 _ (by omega) (by omega) ?_).mono ?_)
  · intro j ⟨lo, H4⟩ hj hI
    refine (let Gol : Prop := _; (?_ : Gol))
    obtain ⟨l1, l2', ht4, ks4, io4, su4, m4, len4, R4⟩ := hI
    dsimp only at l1 l2' ht4 R4
    obtain ⟨v, H5, eC, ks5, io5, su5, rfl, m5, i5, len5, R5, K5⟩ := gni_run R4 hat (k := preds[j]) (by omega)
    unfold Gol; clear Gol
    refine ⟨_, nx_tuple ht4 hj, wp_setVb ?_⟩
    have k1 : put lo "pred" (.int preds[j]) "self" = some (.ref s) := (put_other (by decide)).trans l1
    have k2 : put lo "pred" (.int preds[j]) "node" = some (.int x) := (put_other (by decide)).trans l2'
    have k3 : put lo "pred" (.int preds[j]) "pred" = some (.int preds[j]) := put_same
    generalize put lo "pred" (.int preds[j]) = lo2 at k1 k2 k3
    refine wp_s (ev_asgN (ev_callM k1 R4.hs R4.hsd hat3 (ev_ac (ev_getV k3) ev_a0) eC)) ?_
    have hx5 : preds[j] ∈ ks5 := (m5 _).mpr (.inr rfl)
    obtain ⟨e5, n5⟩ := R5.node _ hx5
    have s5 := R5.succ _ hx5
    have hnj : preds[j] ∉ preds.take j := fun q => by
      have h1 := hnd
      rw [← List.take_append_drop j preds] at h1
      exact (List.nodup_append.mp h1).2.2 _ q _ (List.mem_drop_iff_getElem.mpr ⟨0, by omega, by simp⟩) rfl
    have hle : ((sc preds[j]).map AVal.int).length ≤ 1000 := by have := hsc preds[j]; simp; omega
    rw [if_neg hnj] at s5
    have R6 := R5.setSc hx5 (sc preds[j] ++ [x])
    have k1' : put lo2 "pred_info" (.ref (io5 preds[j])) "self" = some (.ref s) := (put_other (by decide)).trans k1
    have k2' : put lo2 "pred_info" (.ref (io5 preds[j])) "node" = some (.int x) := (put_other (by decide)).trans k2
    have k3' : put lo2 "pred_info" (.ref (io5 preds[j])) "pred_info" = some (.ref (io5 preds[j])) := put_same
    generalize put lo2 "pred_info" (.ref (io5 preds[j])) = lo3 at k1' k2' k3'
    refine wp_l (ev_exprs ((ev_meth (ev_atS k3' n5 rfl rfl) s5 rfl (ev_ac (ev_getV k2') ev_a0)).trans (ev_append s5 hle))) ?_
    refine ⟨.inl rfl, k1', k2', (KT.set s5 fun _ => ne_tag (Nat.ne_of_beq_eq_false rfl)) _ _ (K5 _ _ ht4), ks5, io5, su5, fun y => ?_, by omega, ?_⟩
    · rw [m5, m4, take_snoc hj, List.mem_append, List.mem_singleton, or_assoc]
    · rw [List.map_append] at R6
      have e : fu (fun y => if y ∈ preds.take j then sc y ++ [x] else sc y) preds[j] (sc preds[j] ++ [x]) = fun y => if y ∈ preds.take (j + 1) then sc y ++ [x] else sc y := by
        funext y
        by_cases q : y = preds[j]
        · subst q; rw [fu_same, if_pos ((mem_take1 hj).mpr (.inr rfl))]
        · rw [fu_ne q]; simp only [mem_take1 hj, q, or_false]
      rw [e] at R6
      exact R6
  · rintro ⟨lo, H4⟩ ⟨l1, l2', ht4, _⟩
    exact nx_tupleE ht4
  · refine ⟨k1, k2, ht3, ks2, io2, su2, fun y => by simp, by omega, ?_⟩
    simpa using R3
  · rintro f ⟨lo, H4⟩ ⟨rfl, l1, l2', ht4, ks4, io4, su4, m4, len4, R4⟩
    refine ⟨.none, rfl, ks4, io4, su4, rfl, fun y => ?_, by omega, ?_⟩
    · rw [m4, m2, List.take_length, or_assoc]
    · simpa using R4
end
end Mine
end

section
open PySem PySem.W PyProof.Rows
set_option autoImplicit false
set_option linter.unusedVariables false
set_option linter.unusedSimpArgs false
namespace Mine
theorem wp_items {dd ep : Nat} {x y : Str} {db : M AFlow} {kvs : List (Int × AVal)} (Inv : Nat → St → Prop)
    (hs : ∀ j σ (h : j < kvs.length), Inv j σ → σ.H[dd]? = some (.dict ep kvs) ∧ Wp (do setV x (.int kvs[j].1); setV y kvs[j].2; db) σ fun f σ' => f = .next ∧ Inv (j + 1) σ')
    (he : ∀ σ, Inv kvs.length σ → σ.H[dd]? = some (.dict ep kvs)) : ∀ (c j m : Nat) (σ : St), j + c = kvs.length → c < m → Inv j σ → Wp (dItems dd ep kvs.length x y db m j) σ fun f σ' => f = .next ∧ Inv kvs.length σ' := by
  intro c
  induction c with
  | zero =>
    intro j m σ hj hm hi
    obtain ⟨k, rfl⟩ : ∃ k, m = k + 1 := ⟨m - 1, by omega⟩
    have : j = kvs.length := by omega
    subst this
    unfold dItems
    rw [wp_bind, wp_getO]
    refine ⟨_, he σ hi, ?_⟩
    simp only [and_self, if_true, List.getElem?_eq_none (Nat.le_refl kvs.length), wp_pure, true_and]
    exact hi
  | succ c ih =>
    intro j m σ hj hm hi
    obtain ⟨k, rfl⟩ : ∃ k, m = k + 1 := ⟨m - 1, by omega⟩
    have hlt : j < kvs.length := by omega
    obtain ⟨h1, h2⟩ := hs j σ hlt hi
    unfold dItems
    rw [wp_bind, wp_getO]
    refine ⟨_, h1, ?_⟩
    simp only [and_self, if_true, List.getElem?_eq_getElem hlt]
    rw [wp_bind] at h2
    rw [wp_bind]
    refine h2.mono fun _ σ1 h2 => ?_
    rw [wp_bind] at h2
    rw [wp_bind]
    refine h2.mono fun _ σ2 h2 => ?_
    rw [wp_bind]
    refine h2.mono fun f σ3 h2 => ?_
    obtain ⟨rfl, h2⟩ := h2
    exact ih (j + 1) k σ3 (by omega) (by omega) h2
noncomputable abbrev at4 (d : Nat) (r : AVal) (a b : Int) : List (Str × AVal) := [("_node2info", .ref d), ("_ready_nodes", r), ("_npassedout", .int a), ("_nfinished", .int b)]
section
variable {d : Nat} {r r' : AVal} {a b a' b' : Int}
theorem at4_n : lookS (at4 d r a b) "_node2info" = some (.ref d) := by simp only [lookS, if_true]
theorem at4_r : lookS (at4 d r a b) "_ready_nodes" = some r := by simp only [lookS, str_eq, String.reduceEq, if_true, if_false]
theorem at4_p : lookS (at4 d r a b) "_npassedout" = some (.int a) := by simp only [lookS, str_eq, String.reduceEq, if_true, if_false]
theorem at4_f : lookS (at4 d r a b) "_nfinished" = some (.int b) := by simp only [lookS, str_eq, String.reduceEq, if_true, if_false]
theorem at4_o {x : Str} (h : x ≠ "_node2info" ∧ x ≠ "_ready_nodes" ∧ x ≠ "_npassedout" ∧ x ≠ "_nfinished") : lookS (at4 d r a b) x = none := by
  simp only [lookS, if_neg (Ne.symm h.1), if_neg (Ne.symm h.2.1), if_neg (Ne.symm h.2.2.1), if_neg (Ne.symm h.2.2.2)]
theorem at4_sr : storS (at4 d r a b) "_ready_nodes" r' = at4 d r' a b := by simp only [storS, str_eq, String.reduceEq, if_true, if_false]
theorem at4_sp : storS (at4 d r a b) "_npassedout" (.int a') = at4 d r a' b := by simp only [storS, str_eq, String.reduceEq, if_true, if_false]
theorem at4_sf : storS (at4 d r a b) "_nfinished" (.int b') = at4 d r a b' := by simp only [storS, str_eq, String.reduceEq, if_true, if_false]
theorem at4_s1 : storS [("_node2info", r)] "_ready_nodes" r' = [(Str.ofString "_node2info", r), ("_ready_nodes", r')] := by simp only [storS, str_eq, String.reduceEq, if_false]
theorem at4_s2 {u : AVal} : storS [("_node2info", r), ("_ready_nodes", r')] "_npassedout" u = [(Str.ofString "_node2info", r), ("_ready_nodes", r'), ("_npassedout", u)] := by simp only [storS, str_eq, String.reduceEq, if_false]
theorem at4_s3 {u v : AVal} : storS [("_node2info", r), ("_ready_nodes", r'), ("_npassedout", u)] "_nfinished" v = [(Str.ofString "_node2info", r), ("_ready_nodes", r'), ("_npassedout", u), ("_nfinished", v)] := by simp only [storS, str_eq, String.reduceEq, if_false]
end
theorem ts_run {H0 : List AObj} {b epb : Nat} {fam : List Int} {bel : Int → List Int} {bl : Int → Nat} (hb : H0[b]? = some (.dict epb (fam.map fun x => (x, .ref (bl x))))) (hbl : ∀ x ∈ fam, H0[bl x]? = some (.list ((bel x).map .int)))
    (hnd : fam.Nodup) (h6 : fam.length ≤ 6) (hbn : ∀ x ∈ fam, (bel x).Nodup) (hb6 : ∀ x ∈ fam, (bel x).length ≤ 6) (hbs : ∀ x ∈ fam, ∀ y ∈ bel x, y ∈ fam) :
    WF (fTsNew [.ref b]) H0 fun v H' => ∃ s sd d ks io su, v = .ref s ∧ (∀ y, y ∈ ks ↔ y ∈ fam) ∧ ks.length ≤ 42 ∧
      Rep H0 H' s sd d (at4 d .none 0 0) ks io su (fun x => if x ∈ fam then ((bel x).length : Int) else 0) (fun y => fam.filter fun x => decide (y ∈ bel x)) := by
  have key : WF (fTs [.ref (H0.length + 1), .ref b]) (H0 ++ [.sdict []] ++ [.inst 146 H0.length []]) fun v H' => v = .none ∧ ∃ ks io su, (∀ y, y ∈ ks ↔ y ∈ fam) ∧ ks.length ≤ 42 ∧
      Rep H0 H' (H0.length + 1) H0.length (H0.length + 2) (at4 (H0.length + 2) .none 0 0) ks io su (fun x => if x ∈ fam then ((bel x).length : Int) else 0) (fun y => fam.filter fun x => decide (y ∈ bel x)) := by
    unfold fTs
    refine wf_run (l := [("self", .ref (H0.length + 1)), ("graph", .ref b)]) rfl ?_
    have e0 : H0 ++ [AObj.sdict []] ++ [.inst 146 H0.length []] ++ [AObj.dict 0 []] = H0 ++ [AObj.sdict [], .inst 146 H0.length [], .dict 0 []] := by simp
    have ei : ∀ a, (H0 ++ [AObj.sdict a, .inst 146 H0.length [], .dict 0 []])[H0.length + 1]? = some (.inst 146 H0.length []) := by simp
    have es : ∀ a, (H0 ++ [AObj.sdict a, .inst 146 H0.length [], .dict 0 []])[H0.length]? = some (.sdict a) := by simp
    have ed : ∀ a, (H0 ++ [AObj.sdict a, .inst 146 H0.length [], .dict 0 []])[H0.length + 2]? = some (.dict 0 []) := by simp
    have eb : ∀ a a', (H0 ++ [AObj.sdict a, .inst 146 H0.length [], .dict 0 []]).set H0.length (.sdict a') = H0 ++ [AObj.sdict a', .inst 146 H0.length [], .dict 0 []] := by simp
    have el : (H0 ++ [AObj.sdict []] ++ [AObj.inst 146 H0.length []]).length = H0.length + 2 := by simp
    unfold dTs
    refine (let Q0 : AFlow → St → Prop := _; (?_ : Wp _ _ Q0))
    have l1 : loB [("self", .ref (H0.length + 1)), ("graph", .ref b)] (fun _ => none) "self" = some (.ref (H0.length + 1)) := lo2a (by decide)
    have l2 : loB [("self", .ref (H0.length + 1)), ("graph", .ref b)] (fun _ => none) "graph" = some (.ref b) := lo2b
    generalize loB [("self", .ref (H0.length + 1)), ("graph", .ref b)] (fun _ => none) = lo at l1 l2
    have put4 : ∀ (a a' : List (Str × AVal)) (nm : Str) (u : AVal) (v : M AVal), storS a nm u = a' → a.length ≤ 900 → (∀ H, v ⟨lo, H⟩ = some (u, ⟨lo, H⟩)) → setAt (putD 146 nm) (getV "self") v ⟨lo, H0 ++ [AObj.sdict a, .inst 146 H0.length [], .dict 0 []]⟩ = some (.next, ⟨lo, H0 ++ [AObj.sdict a', .inst 146 H0.length [], .dict 0 []]⟩) :=
      fun a a' nm u v h1 h2 h3 => (ev_setAt (h3 _) (ev_getN l1) (ev_putD (ei a) (es a) h2)).trans (by rw [h1, eb])
    refine wp_s (σ₁ := ⟨lo, H0 ++ [AObj.sdict [("_node2info", .ref (H0.length + 2))], .inst 146 H0.length [], .dict 0 []]⟩) ((ev_setAt ev_newO (ev_getN l1) (ev_putD (d := H0.length) (sl := []) (kvs := []) (by rw [e0]; exact ei _) (by rw [e0]; exact es _) (Nat.zero_le _))).trans ?_) ?_
    · rw [e0, eb, el]; rfl
    refine wp_s (put4 _ _ _ _ _ at4_s1 (by simp) fun _ => rfl) ?_
    refine wp_s (put4 _ _ _ _ _ at4_s2 (by simp) fun _ => rfl) ?_
    refine wp_s (put4 _ _ _ _ _ at4_s3 (by simp) fun _ => rfl) ?_
    have R0 : Rep H0 (H0 ++ [AObj.sdict (at4 (H0.length + 2) .none 0 0), .inst 146 H0.length [], .dict 0 []]) (H0.length + 1) H0.length (H0.length + 2) (at4 (H0.length + 2) .none 0 0) [] (fun _ => 0) (fun _ => 0) (fun _ => 0) (fun _ => []) :=
      ⟨.app .., ei _, es _, Nat.le_refl _, by omega, ⟨0, ed _⟩, by simp, by simp, by simp, by simp, by simp, by simp, by simp⟩
    generalize H0 ++ [AObj.sdict (at4 (H0.length + 2) .none 0 0), .inst 146 H0.length [], .dict 0 []] = H1 at R0
    have hb1 := R0.over.at hb
    have R1 := R0.app [.items b]
    have hb2 := R1.over.at hb
    have hq : (H1 ++ [AObj.items b])[H1.length]? = some (.items b) := get_new
    have hit : meth "dict" (getV "graph") itemsD a0 ⟨lo, H1⟩ = some (.ref H1.length, ⟨lo, H1 ++ [.items b]⟩) := by
      rw [ev_meth (ev_getN l2) hb1 rfl ev_a0]
      refine wp_eq ?_
      simp only [itemsD, asDict, wp_bind, wp_getO, wp_pure, wp_newO, hb1, Option.some.injEq, exists_eq_left', and_self]
    have has : asItems (.ref H1.length) ⟨lo, H1 ++ [.items b]⟩ = some ((b, epb, (fam.map fun x => (x, AVal.ref (bl x))).length), ⟨lo, H1 ++ [.items b]⟩) := by
      refine wp_eq ?_
      simp only [asItems, wp_bind, wp_getO, wp_pure, hq, hb2, Option.some.injEq, exists_eq_left', and_self]
    generalize H1 ++ [AObj.items b] = H2 at R1 hb2 hq hit has
    have hcm : cmp isNot (getV "graph") (pure .none) ⟨lo, H1⟩ = some (true, ⟨lo, H1⟩) := by rw [ev_cmp (ev_getN l2) ev_pure]; rfl
    refine wp_bind.mpr ((wp_ev hcm).mpr (wp_bind.mpr ((wp_ev hit).mpr (wp_bind.mpr ((wp_ev has).mpr ?_)))))
    have hfl : (fam.map fun x => (x, AVal.ref (bl x))).length = fam.length := by simp
    refine (wp_items (kvs := fam.map fun x => (x, AVal.ref (bl x))) (fun j σ => σ.lo "self" = some (.ref (H0.length + 1)) ∧ ∃ ks' io' su', (∀ y, y ∈ ks' ↔ y ∈ fam.take j ∨ ∃ x ∈ fam.take j, y ∈ bel x) ∧ ks'.length ≤ 7 * j ∧
      Rep H0 σ.H (H0.length + 1) H0.length (H0.length + 2) (at4 (H0.length + 2) .none 0 0) ks' io' su' (fun x => if x ∈ fam.take j then ((bel x).length : Int) else 0) (fun y => (fam.take j).filter fun x => decide (y ∈ bel x))) ?_ ?_ fam.length 0 100 _ (by simp) (by omega) ?_).mono ?_
    · intro j ⟨lo3, H3⟩ hj ⟨l1', ks3, io3, su3, m3, len3, R3⟩
      dsimp only at l1' R3
      rw [hfl] at hj
      have hb3 := R3.over.at hb
      refine ⟨hb3, ?_⟩
      have hxf : fam[j] ∈ fam := List.getElem_mem hj
      have hl3 := R3.over.at (hbl _ hxf)
      have h6' : ((bel fam[j]).map AVal.int).length ≤ 1000 := by have := hb6 _ hxf; simp; omega
      have hnj : fam[j] ∉ fam.take j := fun q => by
        have h1 := hnd
        rw [← List.take_append_drop j fam] at h1
        exact (List.nodup_append.mp h1).2.2 _ q _ (List.mem_drop_iff_getElem.mpr ⟨0, by omega, by simp⟩) rfl
      refine (let Gol : Prop := _; (?_ : Gol))
      obtain ⟨v, H4, eC, ks4, io4, su4, rfl, m4, len4, R4⟩ := add_run R3 at4_n at4_r (at4_o (by decide)) (x := fam[j]) (preds := bel fam[j]) (by omega) (hb6 _ hxf) (hbn _ hxf) (fun y => by
        have : ((fam.take j).filter fun x => decide (y ∈ bel x)).length ≤ (fam.take j).length := List.length_filter_le ..
        rw [List.length_take] at this
        omega)
      unfold Gol; clear Gol
      rw [List.getElem_map]
      have k1 : put (put lo3 "node" (.int fam[j])) "predecessors" (.ref (bl fam[j])) "self" = some (.ref (H0.length + 1)) := (put_other (by decide)).trans ((put_other (by decide)).trans l1')
      have k2 : put (put lo3 "node" (.int fam[j])) "predecessors" (.ref (bl fam[j])) "node" = some (.int fam[j]) := (put_other (by decide)).trans put_same
      have k3 : put (put lo3 "node" (.int fam[j])) "predecessors" (.ref (bl fam[j])) "predecessors" = some (.ref (bl fam[j])) := put_same
      refine wp_setVb (wp_setVb ?_)
      generalize put (put lo3 "node" (.int fam[j])) "predecessors" (.ref (bl fam[j])) = lo4 at k1 k2 k3
      have hds : ac (getV "node") (astar (getV "predecessors") a0) ⟨lo4, H3⟩ = some (.int fam[j] :: (bel fam[j]).map .int, ⟨lo4, H3⟩) := (ev_ac (ev_getN k2) (ev_astar (ev_getN k3) (ev_starL hl3 h6') ev_a0)).trans (by rw [List.append_nil])
      refine wp_l (ev_exprs (ev_callM k1 R3.hs R3.hsd (at4_o (by decide)) hds eC)) ⟨rfl, k1, ?_⟩
      · refine ⟨ks4, io4, su4, fun y => ?_, by have := hb6 _ hxf; omega, ?_⟩
        · rw [m4, m3]
          simp only [mem_take1 hj]
          constructor
          · rintro ((h | ⟨x, h, h'⟩) | h | h)
            · exact .inl (.inl h)
            · exact .inr ⟨x, .inl h, h'⟩
            · exact .inl (.inr h)
            · exact .inr ⟨_, .inr rfl, h⟩
          · rintro ((h | h) | ⟨x, h | rfl, h'⟩)
            · exact .inl (.inl h)
            · exact .inr (.inl h)
            · exact .inl (.inr ⟨x, h, h'⟩)
            · exact .inr (.inr h')
        · have e1 : (fu (fun x => if x ∈ fam.take j then ((bel x).length : Int) else 0) fam[j] ((if fam[j] ∈ fam.take j then ((bel fam[j]).length : Int) else 0) + ((bel fam[j]).length : Int))) = fun x => if x ∈ fam.take (j + 1) then ((bel x).length : Int) else 0 := by
            funext x
            by_cases q : x = fam[j]
            · subst q; rw [fu_same, if_neg hnj, if_pos ((mem_take1 hj).mpr (.inr rfl))]; omega
            · rw [fu_ne q]; simp only [mem_take1 hj, q, or_false]
          have e2 : (fun y => if y ∈ bel fam[j] then ((fam.take j).filter fun x => decide (y ∈ bel x)) ++ [fam[j]] else (fam.take j).filter fun x => decide (y ∈ bel x)) = fun y => (fam.take (j + 1)).filter fun x => decide (y ∈ bel x) := by
            funext y
            rw [take_snoc hj, List.filter_append]
            by_cases q : y ∈ bel fam[j]
            · rw [if_pos q, List.filter_cons, if_pos (by simpa using q), List.filter_nil]
            · rw [if_neg q, List.filter_cons, if_neg (by simpa using q), List.filter_nil, List.append_nil]
          rw [e1, e2] at R4
          exact R4
    · rintro ⟨lo, H3⟩ ⟨l1, ks3, io3, su3, m3, len3, R3⟩
      exact R3.over.at hb
    · refine ⟨l1, [], fun _ => 0, fun _ => 0, by simp, by simp, ?_⟩
      simpa using R1
    · rintro f ⟨lo, H3⟩ ⟨rfl, l1, ks3, io3, su3, m3, len3, R3⟩
      rw [hfl] at m3 len3 R3
      simp only [List.take_length] at m3 R3
      refine ⟨.none, rfl, rfl, ks3, io3, su3, fun y => ?_, by omega, R3⟩
      rw [m3]
      exact ⟨fun h => h.elim id fun ⟨x, hx, hy⟩ => hbs x hx y hy, .inl⟩
  obtain ⟨v, H', e, rfl, h⟩ := key
  obtain ⟨ks, io, su, h1, h2, h3⟩ := h
  refine ⟨_, H', ?_, H0.length + 1, H0.length, H0.length + 2, ks, io, su, rfl, h1, h2, h3⟩
  unfold fTsNew newD
  rw [e]; rfl
end Mine
end

section
open PySem PySem.W PyProof.Rows
set_option autoImplicit false
set_option linter.unusedVariables false
set_option linter.unusedSimpArgs false
namespace Mine
theorem Rep.over' {H0 H H' : List AObj} {s sd d : Nat} {at' : List (Str × AVal)} {ks : List Int} {io su : Int → Nat} {np : Int → Int} {sc : Int → List Int} (R : Rep H0 H s sd d at' ks io su np sc) (o : Over H H') : Rep H0 H' s sd d at' ks io su np sc :=
  ⟨R.over.trans o, o.at R.hs, o.at R.hsd, R.gsd, R.gd, R.hd.imp fun _ h => o.at h, fun k hk => (R.node k hk).imp fun _ h => o.at h, fun k hk => o.at (R.succ k hk), R.inj, R.gio, R.gsu, R.nd, R.out⟩
theorem nodup_len : ∀ (l ks : List Int), l.Nodup → (∀ x ∈ l, x ∈ ks) → l.length ≤ ks.length := by
  intro l
  induction l with
  | nil => intro ks _ _; simp
  | cons x l ih =>
    intro ks hn hs
    have hx : x ∈ ks := hs x List.mem_cons_self
    obtain ⟨h1, h2⟩ := List.nodup_cons.mp hn
    have h := ih (ks.erase x) h2 fun y hy => by
      have hne : y ≠ x := fun q => h1 (q ▸ hy)
      exact (List.mem_erase_of_ne hne).mpr (hs y (List.mem_cons_of_mem _ hy))
    rw [List.length_erase_of_mem hx] at h
    have : 0 < ks.length := List.length_pos_of_mem hx
    simp only [List.length_cons]
    omega
/-! the search for a cycle: its objects -/
structure Fr where
  k : Int
  m : Nat
  it : Nat
  pos : Nat
structure Fg (H1 H : List AObj) (su : Int → Nat) (stv itv : List AVal) (sn : List Int) (kvs : List (Int × AVal)) (fr : List Fr) : Prop where
  over : Over H1 H
  st : H[H1.length]? = some (.list stv)
  its : H[H1.length + 1]? = some (.list itv)
  se : H[H1.length + 2]? = some (.set sn)
  n2 : (∃ ep, H[H1.length + 3]? = some (.dict ep kvs)) ∨ H[H1.length + 3]? = some (.ddict kvs)
  fok : ∀ f ∈ fr, H[f.m]? = some (.nextm f.it) ∧ H[f.it]? = some (.iter (su f.k) f.pos) ∧ H1.length ≤ f.it
  itnd : (fr.map (·.it)).Nodup
section
variable {H1 H : List AObj} {su : Int → Nat} {stv itv : List AVal} {sn : List Int} {kvs : List (Int × AVal)} {fr : List Fr}
theorem Fg.app (F : Fg H1 H su stv itv sn kvs fr) (l : List AObj) : Fg H1 (H ++ l) su stv itv sn kvs fr :=
  ⟨F.over.trans (.app ..), get_app F.st, get_app F.its, get_app F.se, F.n2.imp (fun h => h.imp fun _ h => get_app h) get_app, fun f hf => ⟨get_app (F.fok f hf).1, get_app (F.fok f hf).2.1, (F.fok f hf).2.2⟩, F.itnd⟩
theorem Fg.n2k (F : Fg H1 H su stv itv sn kvs fr) {i : Nat} {o x : AObj} (h : H[i]? = some o) (h1 : ∀ ep kv, o ≠ .dict ep kv) (h2 : ∀ kv, o ≠ .ddict kv) : (∃ ep, (H.set i x)[H1.length + 3]? = some (.dict ep kvs)) ∨ (H.set i x)[H1.length + 3]? = some (.ddict kvs) :=
  F.n2.imp (fun q => q.imp fun ep q => set_k q h fun e => h1 ep kvs e.symm) fun q => set_k q h fun e => h2 kvs e.symm
theorem Fg.fk (F : Fg H1 H su stv itv sn kvs fr) {i : Nat} {o x : AObj} (h : H[i]? = some o) (h1 : ∀ j, o ≠ .nextm j) (h2 : ∀ l p, o ≠ .iter l p) : ∀ f ∈ fr, (H.set i x)[f.m]? = some (.nextm f.it) ∧ (H.set i x)[f.it]? = some (.iter (su f.k) f.pos) ∧ H1.length ≤ f.it :=
  fun f hf => ⟨set_k (F.fok f hf).1 h fun e => h1 _ e.symm, set_k (F.fok f hf).2.1 h fun e => h2 _ _ e.symm, (F.fok f hf).2.2⟩
theorem Fg.setSt (F : Fg H1 H su stv itv sn kvs fr) (v : List AVal) : Fg H1 (H.set H1.length (.list v)) su v itv sn kvs fr :=
  ⟨F.over.set (Nat.le_refl _) _, set_get F.st, set_ne F.its (by omega), set_ne F.se (by omega), F.n2k F.st (fun _ _ => ne_tag (Nat.ne_of_beq_eq_false rfl)) (fun _ => ne_tag (Nat.ne_of_beq_eq_false rfl)), F.fk F.st (fun _ => ne_tag (Nat.ne_of_beq_eq_false rfl)) (fun _ _ => ne_tag (Nat.ne_of_beq_eq_false rfl)), F.itnd⟩
theorem Fg.setIts (F : Fg H1 H su stv itv sn kvs fr) (v : List AVal) : Fg H1 (H.set (H1.length + 1) (.list v)) su stv v sn kvs fr :=
  ⟨F.over.set (by omega) _, set_ne F.st (by omega), set_get F.its, set_ne F.se (by omega), F.n2k F.its (fun _ _ => ne_tag (Nat.ne_of_beq_eq_false rfl)) (fun _ => ne_tag (Nat.ne_of_beq_eq_false rfl)), F.fk F.its (fun _ => ne_tag (Nat.ne_of_beq_eq_false rfl)) (fun _ _ => ne_tag (Nat.ne_of_beq_eq_false rfl)), F.itnd⟩
theorem Fg.setSe (F : Fg H1 H su stv itv sn kvs fr) (v : List Int) : Fg H1 (H.set (H1.length + 2) (.set v)) su stv itv v kvs fr :=
  ⟨F.over.set (by omega) _, set_ne F.st (by omega), set_ne F.its (by omega), set_get F.se, F.n2k F.se (fun _ _ => ne_tag (Nat.ne_of_beq_eq_false rfl)) (fun _ => ne_tag (Nat.ne_of_beq_eq_false rfl)), F.fk F.se (fun _ => ne_tag (Nat.ne_of_beq_eq_false rfl)) (fun _ _ => ne_tag (Nat.ne_of_beq_eq_false rfl)), F.itnd⟩
theorem Fg.setN2 (F : Fg H1 H su stv itv sn kvs fr) {v : List (Int × AVal)} {o : AObj} (ho : (∃ ep, o = .dict ep v) ∨ o = .ddict v) : Fg H1 (H.set (H1.length + 3) o) su stv itv sn v fr := by
  refine ⟨F.over.set (by omega) _, set_ne F.st (by omega), set_ne F.its (by omega), set_ne F.se (by omega), ?_, ?_, F.itnd⟩
  · rcases F.n2 with ⟨ep, q⟩ | q <;> rw [set_get q] <;> rcases ho with ⟨ep', rfl⟩ | rfl
    · exact .inl ⟨ep', rfl⟩
    · exact .inr rfl
    · exact .inl ⟨ep', rfl⟩
    · exact .inr rfl
  · rcases F.n2 with ⟨ep, q⟩ | q <;> exact F.fk q (fun _ => ne_tag (Nat.ne_of_beq_eq_false rfl)) (fun _ _ => ne_tag (Nat.ne_of_beq_eq_false rfl))
theorem Fg.push (F : Fg H1 H su stv itv sn kvs fr) {x : Int} {m it : Nat} (hm : H[m]? = some (.nextm it)) (hi : H[it]? = some (.iter (su x) 0)) (hg : H1.length ≤ it) (hn : ∀ f ∈ fr, f.it ≠ it) : Fg H1 H su stv itv sn kvs (fr ++ [⟨x, m, it, 0⟩]) := by
  refine ⟨F.over, F.st, F.its, F.se, F.n2, fun f hf => ?_, ?_⟩
  · rcases List.mem_append.mp hf with hf | hf
    · exact F.fok f hf
    · rw [List.mem_singleton.mp hf]; exact ⟨hm, hi, hg⟩
  · rw [List.map_append]
    refine List.nodup_append.mpr ⟨F.itnd, by simp, fun a ha b hb => ?_⟩
    obtain ⟨f, hf, rfl⟩ := List.mem_map.mp ha
    have : b = it := by simpa using hb
    rw [this]; exact hn f hf
theorem last_ne {fr : List Fr} {f : Fr} (h : ((fr ++ [f]).map (·.it)).Nodup) : ∀ g ∈ fr, g.it ≠ f.it := fun g hg => by
  rw [List.map_append] at h
  exact (List.nodup_append.mp h).2.2 _ (List.mem_map_of_mem hg) _ (by simp)
theorem Fg.adv {f : Fr} (F : Fg H1 H su stv itv sn kvs (fr ++ [f])) : Fg H1 (H.set f.it (.iter (su f.k) (f.pos + 1))) su stv itv sn kvs (fr ++ [⟨f.k, f.m, f.it, f.pos + 1⟩]) := by
  obtain ⟨h1, h2, h3⟩ := F.fok f (by simp)
  refine ⟨F.over.set h3 _, set_k F.st h2 (ne_tag (Nat.ne_of_beq_eq_false rfl)), set_k F.its h2 (ne_tag (Nat.ne_of_beq_eq_false rfl)), set_k F.se h2 (ne_tag (Nat.ne_of_beq_eq_false rfl)), F.n2k h2 (fun _ _ => ne_tag (Nat.ne_of_beq_eq_false rfl)) (fun _ => ne_tag (Nat.ne_of_beq_eq_false rfl)), fun g hg => ?_, by simpa using F.itnd⟩
  rcases List.mem_append.mp hg with hg | hg
  · obtain ⟨g1, g2, g3⟩ := F.fok g (List.mem_append_left _ hg)
    exact ⟨set_k g1 h2 (ne_tag (Nat.ne_of_beq_eq_false rfl)), set_ne g2 (Ne.symm (last_ne F.itnd g hg)), g3⟩
  · rw [List.mem_singleton.mp hg]
    exact ⟨set_k h1 h2 (ne_tag (Nat.ne_of_beq_eq_false rfl)), set_get h2, h3⟩
theorem Fg.pop {f : Fr} (F : Fg H1 H su stv itv sn kvs (fr ++ [f])) : Fg H1 (H.set f.it .dead) su stv itv sn kvs fr := by
  obtain ⟨h1, h2, h3⟩ := F.fok f (by simp)
  refine ⟨F.over.set h3 _, set_k F.st h2 (ne_tag (Nat.ne_of_beq_eq_false rfl)), set_k F.its h2 (ne_tag (Nat.ne_of_beq_eq_false rfl)), set_k F.se h2 (ne_tag (Nat.ne_of_beq_eq_false rfl)), F.n2k h2 (fun _ _ => ne_tag (Nat.ne_of_beq_eq_false rfl)) (fun _ => ne_tag (Nat.ne_of_beq_eq_false rfl)), fun g hg => ?_, ?_⟩
  · obtain ⟨g1, g2, g3⟩ := F.fok g (List.mem_append_left _ hg)
    exact ⟨set_k g1 h2 (ne_tag (Nat.ne_of_beq_eq_false rfl)), set_ne g2 (Ne.symm (last_ne F.itnd g hg)), g3⟩
  · have := F.itnd
    rw [List.map_append] at this
    exact (List.nodup_append.mp this).1
theorem Fg.setA (F : Fg H1 H su stv itv sn kvs fr) (hl : kvs.length ≤ 1000) {i : Int} {v : AVal} {lo : Lo} : Wp (Mine.setA (.ref (H1.length + 3)) (.int i) v) ⟨lo, H⟩ fun _ σ' => σ'.lo = lo ∧ Fg H1 σ'.H su stv itv sn (storA kvs i v) fr := by
  rcases F.n2 with ⟨ep, q⟩ | q
  · simp only [Mine.setA, ifs, cmp, bin, asg, rets, exprs, ac, a0, fnc, meth, setI, forL, Mine.at', setAt, augAt, callM, callF, astar, named, isNot, nil', lst, I, isNoneA, cmpI, intsA, wp_bind, wp_pure, wp_getV, wp_getO, wp_setV, wp_setO, wp_newO, wp_lift, wp_ite, wp_fail, wp_onH, loB, put, str_eq, instD, dictD, setSlD, setSl, getSl, getD, putD, methD, lookS, storS, hOk, asList, asTuple, asDict, asSet, asDictR, chkT, kindT, Option.some.injEq, exists_eq_left', exists_eq_left, if_true, if_false, reduceIte, String.reduceEq, Option.join_some, true_and, and_true, List.getElem?_cons_zero, List.getElem?_cons_succ, reduceCtorEq, false_and, exists_false, Bool.false_eq_true, Bool.not_true, Bool.not_false, beq_self_eq_true, AVal.ref.injEq, AVal.int.injEq, q, if_pos hl]; exact F.setN2 (.inl ⟨_, rfl⟩)
  · simp only [Mine.setA, ifs, cmp, bin, asg, rets, exprs, ac, a0, fnc, meth, setI, forL, Mine.at', setAt, augAt, callM, callF, astar, named, isNot, nil', lst, I, isNoneA, cmpI, intsA, wp_bind, wp_pure, wp_getV, wp_getO, wp_setV, wp_setO, wp_newO, wp_lift, wp_ite, wp_fail, wp_onH, loB, put, str_eq, instD, dictD, setSlD, setSl, getSl, getD, putD, methD, lookS, storS, hOk, asList, asTuple, asDict, asSet, asDictR, chkT, kindT, Option.some.injEq, exists_eq_left', exists_eq_left, if_true, if_false, reduceIte, String.reduceEq, Option.join_some, true_and, and_true, List.getElem?_cons_zero, List.getElem?_cons_succ, reduceCtorEq, false_and, exists_false, Bool.false_eq_true, Bool.not_true, Bool.not_false, beq_self_eq_true, AVal.ref.injEq, AVal.int.injEq, q, if_pos hl]; exact F.setN2 (.inr rfl)
theorem Fg.delA (F : Fg H1 H su stv itv sn kvs fr) (hl : kvs.length ≤ 1000) {i : Int} (hi : hasK kvs i = true) {lo : Lo} : Wp (Mine.delA (.ref (H1.length + 3)) (.int i)) ⟨lo, H⟩ fun _ σ' => σ'.lo = lo ∧ Fg H1 σ'.H su stv itv sn (withA kvs i) fr := by
  rcases F.n2 with ⟨ep, q⟩ | q
  · simp only [Mine.delA, ifs, cmp, bin, asg, rets, exprs, ac, a0, fnc, meth, setI, forL, Mine.at', setAt, augAt, callM, callF, astar, named, isNot, nil', lst, I, isNoneA, cmpI, intsA, wp_bind, wp_pure, wp_getV, wp_getO, wp_setV, wp_setO, wp_newO, wp_lift, wp_ite, wp_fail, wp_onH, loB, put, str_eq, instD, dictD, setSlD, setSl, getSl, getD, putD, methD, lookS, storS, hOk, asList, asTuple, asDict, asSet, asDictR, chkT, kindT, Option.some.injEq, exists_eq_left', exists_eq_left, if_true, if_false, reduceIte, String.reduceEq, Option.join_some, true_and, and_true, List.getElem?_cons_zero, List.getElem?_cons_succ, reduceCtorEq, false_and, exists_false, Bool.false_eq_true, Bool.not_true, Bool.not_false, beq_self_eq_true, AVal.ref.injEq, AVal.int.injEq, q, if_pos (And.intro hl hi)]; exact F.setN2 (.inr rfl)
  · simp only [Mine.delA, ifs, cmp, bin, asg, rets, exprs, ac, a0, fnc, meth, setI, forL, Mine.at', setAt, augAt, callM, callF, astar, named, isNot, nil', lst, I, isNoneA, cmpI, intsA, wp_bind, wp_pure, wp_getV, wp_getO, wp_setV, wp_setO, wp_newO, wp_lift, wp_ite, wp_fail, wp_onH, loB, put, str_eq, instD, dictD, setSlD, setSl, getSl, getD, putD, methD, lookS, storS, hOk, asList, asTuple, asDict, asSet, asDictR, chkT, kindT, Option.some.injEq, exists_eq_left', exists_eq_left, if_true, if_false, reduceIte, String.reduceEq, Option.join_some, true_and, and_true, List.getElem?_cons_zero, List.getElem?_cons_succ, reduceCtorEq, false_and, exists_false, Bool.false_eq_true, Bool.not_true, Bool.not_false, beq_self_eq_true, AVal.ref.injEq, AVal.int.injEq, q, if_pos (And.intro hl hi)]; exact F.setN2 (.inr rfl)
theorem Fg.inA (F : Fg H1 H su stv itv sn kvs fr) {i : Int} {lo : Lo} : Mine.inA (.int i) (.ref (H1.length + 3)) ⟨lo, H⟩ = some ((lookA kvs i).isSome, ⟨lo, H⟩) := by
  rcases F.n2 with ⟨ep, q⟩ | q
  · unfold Mine.inA; dsimp only; rw [ev_bind (ev_getO q)]; rfl
  · unfold Mine.inA; dsimp only; rw [ev_bind (ev_getO q)]; rfl
end
end Mine
end

section
open PySem PySem.W PyProof.Rows
set_option autoImplicit false
set_option linter.unusedVariables false
set_option linter.unusedSimpArgs false
namespace Mine
theorem lookA_none {V : Type} {kvs : List (Int × V)} {x : Int} (h : x ∉ kvs.map (·.1)) : lookA kvs x = none := by
  unfold lookA
  have : kvs.find? (fun kv => decide (kv.1 = x)) = none := List.find?_eq_none.mpr fun p hp q => h (List.mem_map.mpr ⟨p, hp, by simpa using q⟩)
  rw [this]; rfl
theorem storA_keys {V : Type} {kvs : List (Int × V)} {x : Int} {v : V} (h : x ∉ kvs.map (·.1)) : (storA kvs x v).map (·.1) = kvs.map (·.1) ++ [x] := by
  unfold storA
  rw [if_neg fun q => h (hasK_iff.mp q)]; simp
theorem withA_keys {V : Type} {kvs : List (Int × V)} {x : Int} {l : List Int} (h : kvs.map (·.1) = l ++ [x]) (hn : ∀ y ∈ l, y ≠ x) : (withA kvs x).map (·.1) = l := by
  unfold withA
  have : (kvs.filter fun kv => decide (kv.1 ≠ x)).map (·.1) = (kvs.map (·.1)).filter fun y => decide (y ≠ x) := by rw [List.filter_map]; rfl
  rw [this, h, List.filter_append]
  have e1 : l.filter (fun y => decide (y ≠ x)) = l := List.filter_eq_self.mpr fun y hy => by simpa using hn y hy
  rw [e1]; simp
structure Fp (ks : List Int) (fr : List Fr) (sn : List Int) : Prop where
  inc : (fr.map (·.k)).Pairwise (· < ·)
  mem : ∀ f ∈ fr, f.k ∈ ks
  nd : sn.Nodup
  sub : ∀ x ∈ sn, x ∈ ks
theorem Fp.len {ks : List Int} {fr : List Fr} {sn : List Int} (h : Fp ks fr sn) : fr.length ≤ ks.length := by
  have := nodup_len (fr.map fun (f : Fr) => f.k) ks (h.inc.imp fun q => by omega) fun x hx => by obtain ⟨f, hf, rfl⟩ := List.mem_map.mp hx; exact h.mem f hf
  simpa using this
noncomputable def Fc (H1 : List AObj) (su : Int → Nat) (ks : List Int) (H : List AObj) (fr : List Fr) (sn : List Int) : Prop :=
  Fp ks fr sn ∧ ∃ kvs, Fg H1 H su (fr.map fun f => .int f.k) (fr.map fun f => .ref f.m) sn kvs fr ∧ kvs.map (·.1) = fr.map (·.k)
noncomputable def muF (sc : Int → List Int) (fr : List Fr) : Nat := (fr.map fun f => (sc f.k).length - f.pos).sum
noncomputable def muU (sc : Int → List Int) (ks sn : List Int) : Nat := (ks.map fun k => if k ∈ sn then 0 else (sc k).length).sum
structure Locs (n d : Nat) (lo : Lo) : Prop where
  n2i : lo "n2i" = some (.ref d)
  st : lo "stack" = some (.ref n)
  its : lo "itstack" = some (.ref (n + 1))
  se : lo "seen" = some (.ref (n + 2))
  n2s : lo "node2stacki" = some (.ref (n + 3))
theorem Locs.node {n d : Nat} {lo : Lo} (h : Locs n d lo) (v : AVal) : Locs n d (put lo "node" v) :=
  ⟨by rw [put_other (by decide)]; exact h.n2i, by rw [put_other (by decide)]; exact h.st, by rw [put_other (by decide)]; exact h.its, by rw [put_other (by decide)]; exact h.se, by rw [put_other (by decide)]; exact h.n2s⟩
section
variable {H0 H1 : List AObj} {s sd d : Nat} {at' : List (Str × AVal)} {ks : List Int} {io su : Int → Nat} {np : Int → Int} {sc : Int → List Int}
theorem fcW_run (R : Rep H0 H1 s sd d at' ks io su np sc) (hsc : ∀ k ∈ ks, ∀ y ∈ sc k, k < y ∧ y ∈ ks) (hks : ks.length ≤ 42) {fr : List Fr} {sn : List Int} {σ : St} (L : Locs H1.length d σ.lo) (F : Fc H1 su ks σ.H fr sn) :
    Wp (dWhile (do let v ← getV "stack"; truthA v) dFcW (pure .brk) 1000) σ fun f σ' => Locs H1.length d σ'.lo ∧
      ((f = .brk ∧ Fc H1 su ks σ'.H [] sn) ∨ (f = .next ∧ ∃ y fr', σ'.lo "node" = some (.int y) ∧ y ∈ ks ∧ (∀ g ∈ fr', g.k < y) ∧ Fc H1 su ks σ'.H fr' sn ∧ muF sc fr' < muF sc fr)) := by
  refine wp_while2 (fun i σ => Locs H1.length d σ.lo ∧ ∃ fr', fr'.length = i ∧ Fc H1 su ks σ.H fr' sn ∧ muF sc fr' ≤ muF sc fr) ?_ 1000 fr.length σ (by have := F.1.len; omega) ⟨L, fr, rfl, F, Nat.le_refl _⟩
  intro i ⟨lo, H⟩ hI
  refine (let Gol : Prop := _; (?_ : Gol))
  obtain ⟨L, fr1, hfi, F, hmu⟩ := hI
  dsimp only at L F
  have hlen := F.1.len
  obtain ⟨P, kvs, G, hkv⟩ := F
  have hl1 : (fr1.map fun f => AVal.int f.k).length ≤ 1000 := by simp; omega
  have ht : (do let v ← getV "stack"; truthA v : M Bool) ⟨lo, H⟩ = some (!(fr1.map fun f => AVal.int f.k).isEmpty, ⟨lo, H⟩) := by rw [ev_bind (ev_getN L.st)]; exact ev_truthL G.st hl1
  rcases List.eq_nil_or_concat fr1 with rfl | ⟨pr, f, rfl⟩
  · exact .inl ⟨_, ht, wp_pure.mpr ⟨L, .inl ⟨rfl, P, kvs, G, hkv⟩⟩⟩
  · rw [List.concat_eq_append] at *
    have he : ((pr ++ [f]).map fun f => AVal.int f.k).isEmpty = false := by simp
    rw [he] at ht
    unfold Gol; clear Gol
    refine .inr ⟨_, ht, ?_⟩
    have hl2 : ((pr ++ [f]).map fun f => AVal.ref f.m) = (pr.map fun f => AVal.ref f.m) ++ [.ref f.m] := by simp
    have hl2' : ((pr ++ [f]).map fun f => AVal.int f.k) = (pr.map fun f => AVal.int f.k) ++ [.int f.k] := by simp
    have hfk : f.k ∈ ks := P.mem f (by simp)
    obtain ⟨g1, g2, g3⟩ := G.fok f (by simp)
    have hsu := G.over.at (R.succ f.k hfk)
    have c4 : ((pr.map fun f => AVal.ref f.m) ++ [AVal.ref f.m]).length ≤ 1000 := by simp at hl1 ⊢; omega
    have Gi := G.its
    rw [hl2] at Gi
    have hsub : bin subA (getV "itstack") (neg (I 1)) ⟨lo, H⟩ = some (.ref f.m, ⟨lo, H⟩) := by rw [ev_bin (ev_getN L.its) (ev_neg ev_I)]; exact ev_subLast Gi c4
    unfold dFcW
    by_cases hp : f.pos < (sc f.k).length
    · refine wp_l (ev_try1 (u := .int (sc f.k)[f.pos]) hsub g1 g2 hsu (by rw [List.getElem?_map, List.getElem?_eq_getElem hp]; rfl)) ?_
      obtain ⟨q1, q2⟩ := hsc f.k hfk _ (List.getElem_mem hp)
      refine ⟨L.node _, .inr ⟨rfl, _, pr ++ [⟨f.k, f.m, f.it, f.pos + 1⟩], by dsimp only; exact put_same, q2, fun g hg => ?_, ⟨⟨?_, fun g hg => ?_, P.nd, P.sub⟩, kvs, ?_, ?_⟩, ?_⟩⟩
      · rcases List.mem_append.mp hg with hg | hg
        · have := P.inc
          rw [List.map_append] at this
          have := (List.pairwise_append.mp this).2.2 g.k (List.mem_map_of_mem hg) f.k (by simp)
          omega
        · rw [List.mem_singleton.mp hg]; exact q1
      · have := P.inc
        simpa using this
      · rcases List.mem_append.mp hg with hg | hg
        · exact P.mem g (List.mem_append_left _ hg)
        · rw [List.mem_singleton.mp hg]; exact hfk
      · have := G.adv
        simpa using this
      · rw [hkv]; simp
      · refine Nat.lt_of_lt_of_le ?_ hmu
        unfold muF
        simp only [List.map_append, List.map_cons, List.map_nil, List.sum_append, List.sum_cons, List.sum_nil]
        omega
    · have hn : ((sc f.k).map AVal.int)[f.pos]? = none := List.getElem?_eq_none (by simpa using hp)
      refine (let Gol : Prop := _; (?_ : Gol))
      have G2 := G.pop
      have htry := ev_try0 (x := "node") (dh := dFcH) hsub g1 g2 hsu hn
      generalize H.set f.it .dead = H2 at G2 htry
      have S2 := G2.st
      rw [hl2'] at S2
      have c3 : ((pr.map fun f => AVal.int f.k) ++ [AVal.int f.k]).length ≤ 1000 := by simp at hl1 ⊢; omega
      have G3 := G2.setSt (pr.map fun f => AVal.int f.k)
      have epop : meth "list" (getV "stack") popD a0 ⟨lo, H2⟩ = some (.int f.k, ⟨lo, H2.set H1.length (.list (pr.map fun f => AVal.int f.k))⟩) := (ev_meth (ev_getN L.st) S2 rfl ev_a0).trans (ev_pop (σ := ⟨lo, H2⟩) S2 c3)
      generalize H2.set H1.length _ = H3 at G3 epop
      have hkl : kvs.length ≤ 1000 := by
        have := congrArg List.length hkv
        simp at this hl1; omega
      have hkx : hasK kvs f.k = true := hasK_iff.mpr (by rw [hkv]; simp)
      obtain ⟨_, ⟨lo4, H4⟩, edel, rfl, G4⟩ := G3.delA (lo := lo) hkl hkx
      dsimp only at G4
      have S4 := G4.its
      rw [hl2] at S4
      have G5 := G4.setIts (pr.map fun f => AVal.ref f.m)
      have ehd : dFcH ⟨lo4, H2⟩ = some (.next, ⟨lo4, H4.set (H1.length + 1) (.list (pr.map fun f => AVal.ref f.m))⟩) := by
        unfold dFcH
        rw [ev_seq (σ₁ := ⟨lo4, H4⟩) (by rw [ev_bind (ev_getN L.n2s), ev_bind epop, ev_bind edel]; rfl)]
        exact ev_exprs ((ev_meth (ev_getN L.its) S4 rfl ev_a0).trans (ev_pop (σ := ⟨lo4, H4⟩) S4 c4))
      unfold Gol; clear Gol
      refine wp_l (htry.trans ehd) ?_
      refine ⟨pr.length, by rw [← hfi]; simp, L, pr, rfl, ⟨⟨?_, fun g hg => P.mem g (List.mem_append_left _ hg), P.nd, P.sub⟩, _, G5, ?_⟩, ?_⟩
      · have := P.inc
        rw [List.map_append] at this
        exact (List.pairwise_append.mp this).1
      · refine withA_keys (by rw [hkv]; simp) fun y hy => ?_
        have := P.inc
        rw [List.map_append] at this
        have := (List.pairwise_append.mp this).2.2 y hy f.k (by simp)
        omega
      · refine Nat.le_trans ?_ hmu
        unfold muF
        simp only [List.map_append, List.sum_append]
        omega
end
end Mine
end

section
open PySem PySem.W PyProof.Rows
set_option autoImplicit false
set_option linter.unusedVariables false
set_option linter.unusedSimpArgs false
namespace Mine
theorem muU_same {sc : Int → List Int} {ks sn : List Int} {x : Int} (hx : x ∉ ks) : muU sc ks (sn ++ [x]) = muU sc ks sn := by
  unfold muU
  congr 1
  refine List.map_congr_left fun k hk => ?_
  have : k ≠ x := fun q => hx (q ▸ hk)
  simp [this]
theorem muU_add {sc : Int → List Int} {sn : List Int} {x : Int} (hn : x ∉ sn) : ∀ (ks : List Int), ks.Nodup → x ∈ ks → muU sc ks sn = (sc x).length + muU sc ks (sn ++ [x]) := by
  intro ks
  induction ks with
  | nil => intro _ h; cases h
  | cons k l ih =>
    intro hnd hx
    obtain ⟨h1, h2⟩ := List.nodup_cons.mp hnd
    have e : ∀ sn, muU sc (k :: l) sn = (if k ∈ sn then 0 else (sc k).length) + muU sc l sn := fun _ => rfl
    rw [e, e]
    by_cases q : k = x
    · subst q
      rw [muU_same h1, if_neg hn, if_pos (by simp)]; omega
    · have hx' : x ∈ l := (List.mem_cons.mp hx).resolve_left (Ne.symm q)
      rw [ih h2 hx']
      have : (k ∈ sn ++ [x]) ↔ k ∈ sn := by simp [q]
      simp only [this]; omega
theorem muU_le {sc : Int → List Int} {ks sn : List Int} (h : ∀ k, (sc k).length ≤ 6) : muU sc ks sn ≤ 6 * ks.length := by
  induction ks with
  | nil => simp [muU]
  | cons k l ih =>
    have e : muU sc (k :: l) sn = (if k ∈ sn then 0 else (sc k).length) + muU sc l sn := rfl
    rw [e, List.length_cons]
    have := h k
    split <;> omega
section
variable {H0 H1 : List AObj} {s sd d : Nat} {at' : List (Str × AVal)} {ks : List Int} {io su : Int → Nat} {np : Int → Int} {sc : Int → List Int}
theorem fcIn_run (R : Rep H0 H1 s sd d at' ks io su np sc) (hsc : ∀ k ∈ ks, ∀ y ∈ sc k, k < y ∧ y ∈ ks) (hks : ks.length ≤ 42) {fr : List Fr} {sn : List Int} {σ : St} (L : Locs H1.length d σ.lo) (F : Fc H1 su ks σ.H fr sn) {x : Int} (hx : σ.lo "node" = some (.int x)) (hxk : x ∈ ks) (hlt : ∀ g ∈ fr, g.k < x) :
    Wp dFcIn σ fun f σ' => Locs H1.length d σ'.lo ∧
      ((f = .brk ∧ ∃ sn', Fc H1 su ks σ'.H [] sn') ∨ (f = .next ∧ ∃ y fr' sn', σ'.lo "node" = some (.int y) ∧ y ∈ ks ∧ (∀ g ∈ fr', g.k < y) ∧ Fc H1 su ks σ'.H fr' sn' ∧ muF sc fr' + muU sc ks sn' < muF sc fr + muU sc ks sn)) := by
  obtain ⟨lo, H⟩ := σ
  dsimp only at L F hx
  have hlen := F.1.len
  obtain ⟨P, kvs, G, hkv⟩ := F
  unfold dFcIn
  refine (let Q0 : AFlow → St → Prop := _; (?_ : Wp _ _ Q0))
  have hin : cmp inA (getV "node") (getV "seen") ⟨lo, H⟩ = some (decide (x ∈ sn), ⟨lo, H⟩) := by rw [ev_cmp (ev_getN hx) (ev_getN L.se)]; exact ev_inSet G.se
  have hnk : x ∉ kvs.map (·.1) := fun q => by
    rw [hkv] at q
    obtain ⟨g, hg, e⟩ := List.mem_map.mp q
    have := hlt g hg
    omega
  have hkl : kvs.length ≤ 1000 := by
    have := congrArg List.length hkv
    simp at this; omega
  by_cases hs : x ∈ sn
  · rw [decide_eq_true hs] at hin
    have hin2 : cmp inA (getV "node") (getV "node2stacki") ⟨lo, H⟩ = some (false, ⟨lo, H⟩) := by rw [ev_cmp (ev_getN hx) (ev_getN L.n2s), G.inA, lookA_none hnk]; rfl
    refine wp_s ((ev_ifT hin).trans ((ev_ifF hin2).trans rfl)) ?_
    refine (fcW_run R hsc hks (σ := ⟨lo, H⟩) L ⟨P, kvs, G, hkv⟩).mono ?_
    rintro f σ' ⟨L', ⟨rfl, F'⟩ | ⟨rfl, y, fr', q1, q2, q3, q4, q5⟩⟩
    · exact ⟨L', .inl ⟨rfl, sn, F'⟩⟩
    · exact ⟨L', .inr ⟨rfl, y, fr', sn, q1, q2, q3, q4, by omega⟩⟩
  · have hsl : sn.length ≤ 1000 := by have := nodup_len sn ks P.nd P.sub; omega
    rw [decide_eq_false hs] at hin
    have a1 : exprs (meth "set" (getV "seen") addD (ac (getV "node") a0)) ⟨lo, H⟩ = some (.next, ⟨lo, H.set (H1.length + 2) (.set (sn ++ [x]))⟩) := ev_exprs ((ev_meth (ev_getN L.se) G.se rfl (ev_ac (ev_getN hx) ev_a0)).trans (ev_addS G.se hsl hs))
    have G1 := G.setSe (sn ++ [x])
    generalize H.set (H1.length + 2) _ = H2 at G1 a1
    have R2 := R.over' G1.over
    obtain ⟨ep, hd⟩ := R2.hd
    obtain ⟨e2, n2⟩ := R2.node x hxk
    have s2 := R2.succ x hxk
    have lk : lookA (ks.map fun k => (k, AVal.ref (io k))) x = some (.ref (io x)) := by rw [lookA_map, if_pos hxk]
    have hi : (H2 ++ [AObj.iter (su x) 0])[H2.length]? = some (.iter (su x) 0) := get_new
    have G2 := (G1.app [.iter (su x) 0]).app [.nextm H2.length]
    have hil : ((fr.map fun f => AVal.ref f.m)).length ≤ 1000 := by simp; omega
    have hm2 : (H2 ++ [AObj.iter (su x) 0] ++ [AObj.nextm H2.length])[H2.length + 1]? = some (.nextm H2.length) := by simp
    have hi2 : (H2 ++ [AObj.iter (su x) 0] ++ [AObj.nextm H2.length])[H2.length]? = some (.iter (su x) 0) := get_app hi
    have hinfo : Mine.at' (getSl 49 2) (bin subA (getV "n2i") (getV "node")) ⟨lo, H2⟩ = some (.ref (su x), ⟨lo, H2⟩) := by
      unfold Mine.at'
      rw [ev_bind (a := .ref (io x)) (σ₁ := ⟨lo, H2⟩) (by rw [ev_bin (ev_getN L.n2i) (ev_getN hx)]; exact ev_subD (σ := ⟨lo, H2⟩) hd lk)]
      exact ev_getSl n2 rfl rfl
    have hnext : Mine.at' nextA (fnc iterD (ac (Mine.at' (getSl 49 2) (bin subA (getV "n2i") (getV "node"))) a0)) ⟨lo, H2⟩ = some (.ref (H2.length + 1), ⟨lo, H2 ++ [AObj.iter (su x) 0] ++ [AObj.nextm H2.length]⟩) := by
      unfold Mine.at'
      rw [ev_bind (a := .ref H2.length) (σ₁ := ⟨lo, H2 ++ [AObj.iter (su x) 0]⟩) (by rw [ev_fnc (ev_ac hinfo ev_a0)]; exact ev_iterD (σ := ⟨lo, H2⟩) s2), ev_nextA hi]
      simp
    have a2 : exprs (meth "list" (getV "itstack") appendD (ac (Mine.at' nextA (fnc iterD (ac (Mine.at' (getSl 49 2) (bin subA (getV "n2i") (getV "node"))) a0))) a0)) ⟨lo, H2⟩ = some (.next, ⟨lo, (H2 ++ [AObj.iter (su x) 0] ++ [AObj.nextm H2.length]).set (H1.length + 1) (.list ((fr.map fun f => AVal.ref f.m) ++ [.ref (H2.length + 1)]))⟩) :=
      ev_exprs ((ev_meth (ev_getN L.its) G1.its rfl (ev_ac hnext ev_a0)).trans (ev_appendN G2.its hil))
    have G3 := (G2.setIts ((fr.map fun f => AVal.ref f.m) ++ [.ref (H2.length + 1)])).push (x := x) (m := H2.length + 1) (it := H2.length) (set_k hm2 G2.its (ne_tag (Nat.ne_of_beq_eq_false rfl))) (set_k hi2 G2.its (ne_tag (Nat.ne_of_beq_eq_false rfl))) G1.over.1
      (fun f hf q => by have := (List.getElem?_eq_some_iff.mp (G1.fok f hf).2.1).1; omega)
    generalize (H2 ++ [AObj.iter (su x) 0] ++ [AObj.nextm H2.length]).set (H1.length + 1) _ = H3 at G3 a2
    have hstl : ((fr.map fun f => AVal.int f.k)).length ≤ 1000 := by simp; omega
    refine (let Gol : Prop := _; (?_ : Gol))
    obtain ⟨_, ⟨lo4, H4⟩, eset, rfl, G4⟩ := G3.setA (lo := lo) (i := x) (v := .int ((fr.map fun f => AVal.int f.k).length : Nat)) hkl
    dsimp only at G4
    have a3 : setI (getV "node2stacki") (getV "node") (fnc lenA (ac (getV "stack") a0)) ⟨lo4, H3⟩ = some (.next, ⟨lo4, H4⟩) :=
      ev_setI (by rw [ev_fnc (ev_ac (ev_getN L.st) ev_a0)]; exact ev_lenL (σ := ⟨lo4, H3⟩) G3.st hstl) (ev_getN L.n2s) (ev_getN hx) eset
    have a4 : exprs (meth "list" (getV "stack") appendD (ac (getV "node") a0)) ⟨lo4, H4⟩ = some (.next, ⟨lo4, H4.set H1.length (.list ((fr.map fun f => AVal.int f.k) ++ [.int x]))⟩) :=
      ev_exprs ((ev_meth (ev_getN L.st) G4.st rfl (ev_ac (ev_getN hx) ev_a0)).trans (ev_appendN G4.st hstl))
    have G5 := G4.setSt ((fr.map fun f => AVal.int f.k) ++ [.int x])
    generalize H4.set H1.length _ = H5 at G5 a4
    have P5 : Fp ks (fr ++ [⟨x, H2.length + 1, H2.length, 0⟩]) (sn ++ [x]) := by
      refine ⟨?_, fun g hg => ?_, ?_, fun y hy => ?_⟩
      · rw [List.map_append]
        refine List.pairwise_append.mpr ⟨P.inc, by simp, fun a ha b hb => ?_⟩
        obtain ⟨g, hg, rfl⟩ := List.mem_map.mp ha
        have : b = x := by simpa using hb
        rw [this]; exact hlt g hg
      · rcases List.mem_append.mp hg with hg | hg
        · exact P.mem g hg
        · rw [List.mem_singleton.mp hg]; exact hxk
      · exact List.nodup_append.mpr ⟨P.nd, by simp, fun a ha b hb q => by rw [List.mem_singleton.mp hb] at q; exact hs (q ▸ ha)⟩
      · rcases List.mem_append.mp hy with hy | hy
        · exact P.sub y hy
        · rw [List.mem_singleton.mp hy]; exact hxk
    have F5 : Fc H1 su ks H5 (fr ++ [⟨x, H2.length + 1, H2.length, 0⟩]) (sn ++ [x]) := ⟨P5, _, by simpa using G5, by rw [storA_keys hnk, hkv]; simp⟩
    have hmu : muF sc (fr ++ [⟨x, H2.length + 1, H2.length, 0⟩]) + muU sc ks (sn ++ [x]) = muF sc fr + muU sc ks sn := by
      rw [muU_add hs ks R.nd hxk]
      unfold muF
      simp only [List.map_append, List.map_cons, List.map_nil, List.sum_append, List.sum_cons, List.sum_nil]
      omega
    unfold Gol; clear Gol
    refine wp_s ((ev_ifF hin).trans ((ev_seq a1).trans ((ev_seq a2).trans ((ev_seq a3).trans a4)))) ?_
    refine (fcW_run R hsc hks (σ := ⟨lo4, H5⟩) L F5).mono ?_
    rintro f σ' ⟨L', ⟨rfl, F'⟩ | ⟨rfl, y, fr', q1, q2, q3, q4, q5⟩⟩
    · exact ⟨L', .inl ⟨rfl, _, F'⟩⟩
    · exact ⟨L', .inr ⟨rfl, y, fr', _, q1, q2, q3, q4, by omega⟩⟩
theorem nx_keys {a ep j : Nat} {l : List Int} {f : Int → AVal} {H : List AObj} (h : H[a]? = some (.dict ep (l.map fun k => (k, f k)))) (hj : j < l.length) : nxKeys a ep (l.map fun k => (k, f k)).length j H = some (some (.int l[j])) := by
  unfold nxKeys; rw [h]; dsimp only; rw [if_pos ⟨rfl, rfl⟩, List.getElem?_map, List.getElem?_eq_getElem hj]; rfl
theorem nx_keysE {a ep : Nat} {l : List Int} {f : Int → AVal} {H : List AObj} (h : H[a]? = some (.dict ep (l.map fun k => (k, f k)))) : nxKeys a ep (l.map fun k => (k, f k)).length l.length H = some none := by
  unfold nxKeys; rw [h]; dsimp only; rw [if_pos ⟨rfl, rfl⟩, List.getElem?_eq_none (by simp)]; rfl
theorem fc_run (R : Rep H0 H1 s sd d at' ks io su np sc) (hat : lookS at' "_node2info" = some (.ref d)) (hsc : ∀ k ∈ ks, ∀ y ∈ sc k, k < y ∧ y ∈ ks) (hks : ks.length ≤ 42) (h6 : ∀ k, (sc k).length ≤ 6) : WF (fFc [.ref s]) H1 fun v H' => v = .none ∧ Over H1 H' := by
  unfold fFc
  refine wf_run (l := [("self", .ref s)]) rfl ?_
  unfold dFc
  refine (let Q0 : AFlow → St → Prop := _; (?_ : Wp _ _ Q0))
  have l1 : loB [("self", .ref s)] (fun _ => none) "self" = some (.ref s) := lo1a
  generalize loB [("self", .ref s)] (fun _ => none) = lo at l1
  refine wp_s (ev_asgN (ev_atD l1 R.hs R.hsd hat rfl)) (wp_s (ev_asgN (ev_lst ev_a0 (Nat.zero_le _))) (wp_s (ev_asgN (ev_lst ev_a0 (Nat.zero_le _))) (wp_s (ev_asgN (v := .ref (H1 ++ [AObj.list []] ++ [AObj.list []]).length) (by rw [ev_fnc ev_a0]; exact ev_newO) ) (wp_s (ev_asgN ev_newO) ?_))))
  have e : H1 ++ [AObj.list []] ++ [AObj.list []] ++ [AObj.set []] ++ [AObj.dict 0 []] = H1 ++ [AObj.list [], .list [], .set [], .dict 0 []] := by simp
  dsimp only
  rw [e]
  have e1 : (H1 ++ [AObj.list []]).length = H1.length + 1 := by simp
  have e2 : (H1 ++ [AObj.list []] ++ [AObj.list []]).length = H1.length + 2 := by simp
  have e3 : (H1 ++ [AObj.list []] ++ [AObj.list []] ++ [AObj.set []]).length = H1.length + 3 := by simp
  rw [e1, e2, e3]
  have LL0 : Locs H1.length d (put (put (put (put (put lo "n2i" (.ref d)) "stack" (.ref H1.length)) "itstack" (.ref (H1.length + 1))) "seen" (.ref (H1.length + 2))) "node2stacki" (.ref (H1.length + 3))) :=
    ⟨(put_other (by decide)).trans ((put_other (by decide)).trans ((put_other (by decide)).trans ((put_other (by decide)).trans put_same))), (put_other (by decide)).trans ((put_other (by decide)).trans ((put_other (by decide)).trans put_same)), (put_other (by decide)).trans ((put_other (by decide)).trans put_same), (put_other (by decide)).trans put_same, put_same⟩
  generalize put (put (put (put (put lo "n2i" (.ref d)) "stack" (.ref H1.length)) "itstack" (.ref (H1.length + 1))) "seen" (.ref (H1.length + 2))) "node2stacki" (.ref (H1.length + 3)) = lo1 at LL0
  have G : Fg H1 (H1 ++ [AObj.list [], .list [], .set [], .dict 0 []]) su [] [] [] [] [] := ⟨.app .., by simp, by simp, by simp, .inl ⟨0, by simp⟩, by simp, by simp⟩
  have F : Fc H1 su ks (H1 ++ [AObj.list [], .list [], .set [], .dict 0 []]) [] [] := ⟨⟨by simp, by simp, by simp, by simp⟩, [], G, rfl⟩
  generalize H1 ++ [AObj.list [], .list [], .set [], .dict 0 []] = H2 at F G
  obtain ⟨ep, hd⟩ := R.hd
  have hd2 := G.over.at hd
  refine wp_seq (wp_forL (ev_getN LL0.n2i) (mk_dict hd2) ((wp_loop (fun j σ => Locs H1.length d σ.lo ∧ ∃ sn, Fc H1 su ks σ.H [] sn) ks.length ?_ ?_ ks.length 0 100 _ (by omega) (by omega) ⟨LL0, [], F⟩).mono ?_))
  · rintro j ⟨lo, H⟩ hj ⟨L, sn, F⟩
    dsimp only at L F
    have hdj := F.2.choose_spec.1.over.at hd
    refine ⟨_, nx_keys hdj hj, wp_setVb ?_⟩
    have L2 := L.node (.int ks[j])
    have hnode : put lo "node" (.int ks[j]) "node" = some (.int ks[j]) := put_same
    generalize put lo "node" (.int ks[j]) = lo2 at L2 hnode
    unfold dFcOut
    obtain ⟨P, kvs, G, hkv⟩ := F
    have hin : cmp inA (getV "node") (getV "seen") ⟨lo2, H⟩ = some (decide (ks[j] ∈ sn), ⟨lo2, H⟩) := by rw [ev_cmp (ev_getN hnode) (ev_getN L2.se)]; exact ev_inSet G.se
    by_cases hs : ks[j] ∈ sn
    · rw [decide_eq_true hs] at hin
      refine wp_l (a := .cont) (σ₁ := ⟨lo2, H⟩) ?_ ⟨.inr rfl, L2, sn, P, kvs, G, hkv⟩
      unfold seq
      rw [ev_bind ((ev_ifT hin).trans rfl)]; rfl
    · rw [decide_eq_false hs] at hin
      refine wp_s ((ev_ifF hin).trans rfl) ?_
      refine wp_while2 (fun i σ => Locs H1.length d σ.lo ∧ ∃ x fr sn, σ.lo "node" = some (.int x) ∧ x ∈ ks ∧ (∀ g ∈ fr, g.k < x) ∧ Fc H1 su ks σ.H fr sn ∧ muF sc fr + muU sc ks sn = i) ?_ 1000 (muF sc [] + muU sc ks sn) _ ?_
        ⟨L2, ks[j], [], sn, hnode, List.getElem_mem hj, by simp, ⟨P, kvs, G, hkv⟩, rfl⟩
      · rintro i σ ⟨L, x, fr, sn, q1, q2, q3, q4, rfl⟩
        refine .inr ⟨_, rfl, ?_⟩
        refine (fcIn_run R hsc hks L q4 q1 q2 q3).mono ?_
        rintro f σ' ⟨L', ⟨rfl, sn', F'⟩ | ⟨rfl, y, fr', sn', p1, p2, p3, p4, p5⟩⟩
        · exact ⟨.inl rfl, L', sn', F'⟩
        · exact ⟨_, p5, L', y, fr', sn', p1, p2, p3, p4, rfl⟩
      · have := muU_le (ks := ks) (sn := sn) h6
        have : muF sc [] = 0 := rfl
        omega
  · rintro ⟨lo, H⟩ ⟨L, sn, F⟩
    exact nx_keysE (F.2.choose_spec.1.over.at hd)
  · rintro f ⟨lo, H⟩ ⟨rfl, L, sn, F⟩
    exact ⟨rfl, wp_l (ev_rets ev_pure) ⟨_, rfl, rfl, F.2.choose_spec.1.over⟩⟩
end
end Mine
end

section
open PySem PySem.W PyProof.Rows
set_option autoImplicit false
set_option linter.unusedVariables false
set_option linter.unusedSimpArgs false
namespace Mine
theorem wp_compL {nx : Nx} {x : Str} {dt : M Bool} {de : M AVal} {m : Nat} (Inv : Nat → St → Prop) (len : Nat)
    (hs : ∀ j σ, j < len → Inv j σ → ∃ v, nx j σ.H = some (some v) ∧ Wp (do setV x v; let b ← dt; if b then (do let y ← de; push m y) else pure ()) σ fun _ σ' => Inv (j + 1) σ')
    (he : ∀ σ, Inv len σ → nx len σ.H = some none) : ∀ (c j n : Nat) (σ : St), j + c = len → c < n → Inv j σ → Wp (dCompL nx x dt de m n j) σ fun _ σ' => Inv len σ' := by
  intro c
  induction c with
  | zero =>
    intro j n σ hj hn hi
    obtain ⟨k, rfl⟩ : ∃ k, n = k + 1 := ⟨n - 1, by omega⟩
    have : j = len := by omega
    subst this
    refine ⟨(), σ, ?_, hi⟩
    unfold dCompL
    rw [he σ hi]
  | succ c ih =>
    intro j n σ hj hn hi
    obtain ⟨k, rfl⟩ : ∃ k, n = k + 1 := ⟨n - 1, by omega⟩
    obtain ⟨v, e, h⟩ := hs j σ (by omega) hi
    have goal : Wp (do
      setV x v
      if ← dt then
        let y ← de
        push m y
        dCompL nx x dt de m k (j + 1)
      else dCompL nx x dt de m k (j + 1)) σ fun _ σ' => Inv len σ' := by
      rw [wp_bind] at h ⊢
      refine h.mono fun _ σ1 h => ?_
      rw [wp_bind] at h ⊢
      refine h.mono fun b σ2 h => ?_
      cases b with
      | false =>
        rw [if_neg Bool.false_ne_true, wp_pure] at h
        rw [if_neg Bool.false_ne_true]
        exact ih (j + 1) k σ2 (by omega) (by omega) h
      | true =>
        rw [if_pos rfl, wp_bind] at h
        rw [if_pos rfl, wp_bind]
        refine h.mono fun y σ3 h => ?_
        rw [wp_bind]
        exact h.mono fun _ σ4 h => ih (j + 1) k σ4 (by omega) (by omega) h
    obtain ⟨a, σ', e2, q⟩ := goal
    refine ⟨a, σ', ?_, q⟩
    conv => lhs; unfold dCompL
    simp only [e]
    exact e2
theorem wp_compF {fv : List Str} {di : M AVal} {x : Str} {dt : M Bool} {de : M AVal} {n : Nat} {σ σ₁ : St} {v : AVal} {nx : Nx} {Q : AVal → St → Prop} (hdi : di σ = some (v, σ₁)) (hnx : mkNx v σ₁ = some (nx, σ₁))
    (h : Wp (dCompL nx x dt de σ₁.H.length n 0) ⟨loF fv σ₁.lo, σ₁.H ++ [.list []]⟩ fun _ σ' => Q (.ref σ₁.H.length) ⟨σ₁.lo, σ'.H⟩) : Wp (dCompF fv di x dt de n) σ Q := by
  obtain ⟨_, σ', e, q⟩ := h
  refine ⟨_, _, ?_, q⟩
  unfold dCompF
  rw [ev_bind hdi, ev_bind hnx]
  show (dCompL _ _ _ _ _ _ _ _).map _ = _
  rw [e]; rfl
theorem nx_vals {a ep j : Nat} {l : List Int} {f : Int → AVal} {H : List AObj} (h : H[a]? = some (.dict ep (l.map fun k => (k, f k)))) (hj : j < l.length) : nxVals a ep (l.map fun k => (k, f k)).length j H = some (some (f l[j])) := by
  unfold nxVals; rw [h]; dsimp only; rw [if_pos ⟨rfl, rfl⟩, List.getElem?_map, List.getElem?_eq_getElem hj]; rfl
theorem nx_valsE {a ep : Nat} {l : List Int} {f : Int → AVal} {H : List AObj} (h : H[a]? = some (.dict ep (l.map fun k => (k, f k)))) : nxVals a ep (l.map fun k => (k, f k)).length l.length H = some none := by
  unfold nxVals; rw [h]; dsimp only; rw [if_pos ⟨rfl, rfl⟩, List.getElem?_eq_none (by simp)]; rfl
section
variable {H0 H1 : List AObj} {s sd d : Nat} {ks : List Int} {io su : Int → Nat} {np : Int → Int} {sc : Int → List Int}
theorem prep_run (R : Rep H0 H1 s sd d (at4 d .none 0 0) ks io su np sc) (hsc : ∀ k ∈ ks, ∀ y ∈ sc k, k < y ∧ y ∈ ks) (hks : ks.length ≤ 42) (h6 : ∀ k, (sc k).length ≤ 6) :
    WF (fPrep [.ref s]) H1 fun v H' => v = .none ∧ ∃ rd, H0.length ≤ rd ∧ (∀ k ∈ ks, su k ≠ rd) ∧ H'[rd]? = some (.list ((ks.filter fun k => np k == 0).map .int)) ∧ Rep H0 H' s sd d (at4 d (.ref rd) 0 0) ks io su np sc := by
  unfold fPrep
  refine wf_run (l := [("self", .ref s)]) rfl ?_
  unfold dPrep
  refine (let Q0 : AFlow → St → Prop := _; (?_ : Wp _ _ Q0))
  have l1 : loB [("self", .ref s)] (fun _ => none) "self" = some (.ref s) := lo1a
  generalize loB [("self", .ref s)] (fun _ => none) = lo at l1
  refine wp_s (ev_guard0 (ev_atD l1 R.hs R.hsd at4_r rfl)) (wp_seq ?_)
  obtain ⟨ep, hd⟩ := R.hd
  have R2 := R.app [.values d]
  have hd2 := get_app (l := [AObj.values d]) hd
  have hv2 : (H1 ++ [AObj.values d])[H1.length]? = some (.values d) := get_new
  have hdi : meth "dict" (Mine.at' (getD 146 "_node2info") (getV "self")) valuesD a0 ⟨lo, H1⟩ = some (.ref H1.length, ⟨lo, H1 ++ [.values d]⟩) := by
    rw [ev_meth (ev_atD l1 R.hs R.hsd at4_n rfl) hd rfl ev_a0]
    refine wp_eq ?_
    simp only [valuesD, asDict, wp_bind, wp_getO, wp_pure, wp_newO, hd, Option.some.injEq, exists_eq_left', and_self]
  have hmk : mkNx (.ref H1.length) ⟨lo, H1 ++ [.values d]⟩ = some (nxVals d ep (ks.map fun k => (k, AVal.ref (io k))).length, ⟨lo, H1 ++ [.values d]⟩) := by
    refine wp_eq ?_
    simp only [mkNx, wp_bind, wp_getO, wp_pure, hv2, hd2, Option.some.injEq, exists_eq_left', and_self]
  rw [wp_bind]
  refine wp_compF hdi hmk ?_
  dsimp only
  clear hdi hmk
  have o2 : Over H1 (H1 ++ [AObj.values d]) := .app ..
  generalize H1 ++ [AObj.values d] = H2 at R2 hd2 hv2 o2
  have hrun : Wp (dCompL (nxVals d ep (ks.map fun k => (k, AVal.ref (io k))).length) "i" (cmp eqI (Mine.at' (getSl 49 1) (getV "i")) (I 0)) (Mine.at' (getSl 49 0) (getV "i")) H2.length 100 0) ⟨loF [] lo, H2 ++ [.list []]⟩
      fun _ σ' => Over H2 σ'.H ∧ σ'.H[H2.length]? = some (.list ((ks.filter fun k => np k == 0).map .int)) := by
    refine (wp_compL (fun j σ => Over H2 σ.H ∧ σ.H[H2.length]? = some (.list (((ks.take j).filter fun k => np k == 0).map .int))) ks.length ?_ ?_ ks.length 0 100 _ (by omega) (by omega) ⟨.app .., by simp⟩).mono ?_
    · rintro j ⟨lo', H⟩ hj ⟨o, hl⟩
      dsimp only at o hl
      refine ⟨_, nx_vals (o.at hd2) hj, ?_⟩
      obtain ⟨e, n⟩ := R2.node ks[j] (List.getElem_mem hj)
      have n' := o.at n
      have e1 : cmp eqI (Mine.at' (getSl 49 1) (getV "i")) (I 0) ⟨put lo' "i" (.ref (io ks[j])), H⟩ = some (np ks[j] == 0, ⟨put lo' "i" (.ref (io ks[j])), H⟩) := by rw [ev_cmp (ev_atS put_same n' rfl rfl) ev_I]; rfl
      have e2 : Mine.at' (getSl 49 0) (getV "i") ⟨put lo' "i" (.ref (io ks[j])), H⟩ = some (.int ks[j], ⟨put lo' "i" (.ref (io ks[j])), H⟩) := ev_atS put_same n' rfl rfl
      refine wp_bind.mpr (wp_setV.mpr (wp_bind.mpr ((wp_ev e1).mpr ?_)))
      have ef : (ks.take (j + 1)).filter (fun k => np k == 0) = (ks.take j).filter (fun k => np k == 0) ++ if (np ks[j] == 0) = true then [ks[j]] else [] := by
        rw [take_snoc hj, List.filter_append, List.filter_cons, List.filter_nil]
      have hll : (((ks.take j).filter fun k => np k == 0).map AVal.int).length ≤ 1000 := by
        have : ((ks.take j).filter fun k => np k == 0).length ≤ (ks.take j).length := List.length_filter_le ..
        rw [List.length_take] at this
        simp only [List.length_map]; omega
      by_cases q : (np ks[j] == 0) = true
      · rw [if_pos q]
        refine wp_bind.mpr ((wp_ev e2).mpr ((wp_ev (ev_push hl hll)).mpr ?_))
        refine ⟨o.set (Nat.le_refl _) _, ?_⟩
        rw [set_get hl, ef, if_pos q]; simp
      · rw [if_neg q, ef, if_neg q, List.append_nil]; exact wp_pure.mpr ⟨o, hl⟩
    · rintro ⟨lo, H⟩ ⟨o, hl⟩
      exact nx_valsE (o.at hd2)
    · rintro _ ⟨lo, H⟩ ⟨o, hl⟩
      rw [List.take_length] at hl
      exact ⟨o, hl⟩
  refine hrun.mono ?_
  rintro _ σ3 ⟨o3, hl3⟩
  have R3 := R2.over' o3
  generalize σ3.H = H3 at R3 hl3 o3
  have R4 := R3.setSd (at4 d (.ref H2.length) 0 0)
  have hl4 := set_k (x := .sdict (at4 d (.ref H2.length) 0 0)) hl3 R3.hsd (ne_tag (Nat.ne_of_beq_eq_false rfl))
  have hput := (ev_putD (lo := lo) (nm := "_ready_nodes") (u := .ref H2.length) R3.hs R3.hsd (by simp)).trans (by rw [at4_sr])
  refine wp_bind.mpr ((wp_ev (ev_getN l1)).mpr (wp_bind.mpr ((wp_ev hput).mpr (wp_pure.mpr ⟨rfl, ?_⟩))))
  generalize H3.set sd _ = H4 at R4 hl4
  obtain ⟨v, H5, eC, rfl, o5⟩ := fc_run R4 at4_n hsc hks h6
  refine wp_s (ev_asgN (ev_callM l1 R4.hs R4.hsd (at4_o (by decide)) ev_a0 eC)) (wp_l (a := .next) (σ₁ := ⟨put lo "cycle" .none, H5⟩) ?_ ⟨_, rfl, rfl, ?_⟩)
  · rw [ev_ifF (σ₁ := ⟨put lo "cycle" .none, H5⟩) (by rw [ev_bind ev_getP]; rfl)]; rfl
  refine ⟨H2.length, R2.over.1, fun k hk q => ?_, o5.at hl4, R4.over' o5⟩
  have := (List.getElem?_eq_some_iff.mp (R2.succ k hk)).1
  omega
end
end Mine
end

section
open PySem PySem.W PyProof.Rows
set_option autoImplicit false
set_option linter.unusedVariables false
set_option linter.unusedSimpArgs false
namespace Mine
/-- lists other than one are kept -/
noncomputable def KL (rd : Nat) (H H' : List AObj) : Prop := ∀ (i : Nat) vs, i ≠ rd → H[i]? = some (.list vs) → H'[i]? = some (.list vs)
theorem KL.trans {rd : Nat} {a b c : List AObj} (x : KL rd a b) (y : KL rd b c) : KL rd a c := fun i vs n h => y i vs n (x i vs n h)
theorem KL.app (rd : Nat) (H l : List AObj) : KL rd H (H ++ l) := fun _ _ _ h => get_app h
theorem KL.setRd (rd : Nat) (H : List AObj) (o : AObj) : KL rd H (H.set rd o) := fun i vs n h => set_ne h (Ne.symm n)
theorem KL.set {rd : Nat} {H : List AObj} {j : Nat} {o o' : AObj} (h : H[j]? = some o) (hn : ∀ vs, o ≠ .list vs) : KL rd H (H.set j o') := fun i vs _ e => set_k e h fun q => hn vs q.symm
noncomputable def dec1 (p : (Int → Int) × List Int) (x : Int) : (Int → Int) × List Int := (fu p.1 x (p.1 x - 1), if p.1 x - 1 = 0 then p.2 ++ [x] else p.2)
noncomputable def doneN (sc : Int → List Int) (p : (Int → Int) × List Int) (k : Int) : (Int → Int) × List Int := (sc k).foldl dec1 (fu p.1 k (-2), p.2)
theorem dec1_len (p : (Int → Int) × List Int) (x : Int) : (dec1 p x).2.length ≤ p.2.length + 1 := by unfold dec1; dsimp only; split <;> simp
theorem decs_len (l : List Int) : ∀ p : (Int → Int) × List Int, (l.foldl dec1 p).2.length ≤ p.2.length + l.length := by
  induction l with
  | nil => intro p; simp
  | cons x l ih => intro p; have := ih (dec1 p x); have := dec1_len p x; simp only [List.foldl_cons, List.length_cons]; omega
theorem dones_len {sc : Int → List Int} (h6 : ∀ k, (sc k).length ≤ 6) (l : List Int) : ∀ p : (Int → Int) × List Int, (l.foldl (doneN sc) p).2.length ≤ p.2.length + 6 * l.length := by
  induction l with
  | nil => intro p; simp
  | cons x l ih =>
    intro p
    have := ih (doneN sc p x)
    have h2 : (doneN sc p x).2.length ≤ p.2.length + (sc x).length := decs_len _ _
    have := h6 x
    simp only [List.foldl_cons, List.length_cons]; omega
section
variable {H0 H : List AObj} {s sd d rd : Nat} {ks : List Int} {io su : Int → Nat} {np : Int → Int} {sc : Int → List Int} {a b : Int} {Rl : List Int}
theorem act_run (R : Rep H0 H s sd d (at4 d (.ref rd) a b) ks io su np sc) (hr : H[rd]? = some (.list (Rl.map .int))) (hl : Rl.length ≤ 1000) (hab : a = b) : WF (fAct [.ref s]) H fun v H' => v = .bool (!Rl.isEmpty) ∧ H' = H := by
  unfold fAct
  refine wf_run (l := [("self", .ref s)]) rfl ?_
  unfold dAct
  have l1 : loB [("self", .ref s)] (fun _ => none) "self" = some (.ref s) := lo1a
  generalize loB [("self", .ref s)] (fun _ => none) = lo at l1
  have hl' : (Rl.map AVal.int).length ≤ 1000 := by simpa using hl
  have hlt : decide (b < a) = false := decide_eq_false (by omega)
  have hb : fnc boolD (ac (Mine.at' (getD 146 "_ready_nodes") (getV "self")) a0) ⟨lo, H⟩ = some (.bool (!(Rl.map AVal.int).isEmpty), ⟨lo, H⟩) := by
    rw [ev_fnc (ev_ac (ev_atD l1 R.hs R.hsd at4_r rfl) ev_a0)]
    unfold boolD; dsimp only
    have e : asList (.ref rd) ⟨lo, H⟩ = some ((rd, Rl.map .int), ⟨lo, H⟩) := by unfold asList; dsimp only; rw [ev_bind (ev_getO hr)]; rfl
    rw [ev_bind e]; dsimp only; rw [if_pos hl']; rfl
  refine wp_s (ev_guard1 (ev_atD l1 R.hs R.hsd at4_r rfl)) (wp_l (ev_rets (v := .bool (!(Rl.map AVal.int).isEmpty)) (σ₁ := ⟨lo, H⟩) ?_) ⟨_, rfl, by rw [List.isEmpty_map], rfl⟩)
  have hc : cmpB (cmpI fun a b => decide (a < b)) (Mine.at' (getD 146 "_nfinished") (getV "self")) (Mine.at' (getD 146 "_npassedout") (getV "self")) ⟨lo, H⟩ = some (.bool false, ⟨lo, H⟩) := by
    unfold cmpB
    rw [ev_bind (ev_atD l1 R.hs R.hsd at4_f rfl), ev_bind (ev_atD l1 R.hs R.hsd at4_p rfl)]
    show some (AVal.bool (decide (b < a)), _) = _
    rw [hlt]
  rw [ev_bind hc]
  exact hb
theorem ready_run (R : Rep H0 H s sd d (at4 d (.ref rd) a b) ks io su np sc) (hr : H[rd]? = some (.list (Rl.map .int))) (hg : H0.length ≤ rd) (hsr : ∀ k ∈ ks, su k ≠ rd) (hsub : ∀ k ∈ Rl, k ∈ ks) (hl : Rl.length ≤ 42) :
    WF (fReady [.ref s]) H fun v H' => ∃ t, v = .ref t ∧ H'[t]? = some (.tuple (Rl.map .int)) ∧ H'[rd]? = some (.list []) ∧ Rep H0 H' s sd d (at4 d (.ref rd) (a + Rl.length) b) ks io su (fun k => if k ∈ Rl then -1 else np k) sc ∧ KL rd H H' := by
  unfold fReady
  refine wf_run (l := [("self", .ref s)]) rfl ?_
  unfold dReady
  refine (let Q0 : AFlow → St → Prop := _; (?_ : Wp _ _ Q0))
  have l1 : loB [("self", .ref s)] (fun _ => none) "self" = some (.ref s) := lo1a
  generalize loB [("self", .ref s)] (fun _ => none) = lo at l1
  have hl' : (Rl.map AVal.int).length ≤ 1000 := by simp; omega
  refine wp_s (ev_guard1 (ev_atD l1 R.hs R.hsd at4_r rfl)) (wp_s (ev_asgN (v := .ref H.length) (by rw [ev_fnc (ev_ac (ev_atD l1 R.hs R.hsd at4_r rfl) ev_a0)]; exact ev_tuple (σ := ⟨lo, H⟩) hr hl')) ?_)
  have R1 := R.app [.tuple (Rl.map .int)]
  have hr1 := get_app (l := [AObj.tuple (Rl.map .int)]) hr
  have ht1 : (H ++ [AObj.tuple (Rl.map .int)])[H.length]? = some (.tuple (Rl.map .int)) := get_new
  have K1 := KL.app rd H [AObj.tuple (Rl.map .int)]
  dsimp only
  generalize H ++ [AObj.tuple (Rl.map .int)] = H1 at R1 hr1 ht1 K1
  generalize H.length = t at ht1
  have m1 : put lo "result" (.ref t) "self" = some (.ref s) := (put_other (by decide)).trans l1
  refine wp_s (ev_asgN (ev_atD m1 R1.hs R1.hsd at4_n rfl)) ?_
  have m2 : put (put lo "result" (.ref t)) "n2i" (.ref d) "self" = some (.ref s) := (put_other (by decide)).trans m1
  have m3 : put (put lo "result" (.ref t)) "n2i" (.ref d) "n2i" = some (.ref d) := put_same
  have m4 : put (put lo "result" (.ref t)) "n2i" (.ref d) "result" = some (.ref t) := (put_other (by decide)).trans put_same
  generalize put (put lo "result" (.ref t)) "n2i" (.ref d) = lo1 at m2 m3 m4
  refine wp_seq (wp_forL (ev_getN m4) (mk_tuple ht1) ((wp_loop (fun j σ => σ.lo "self" = some (.ref s) ∧ σ.lo "n2i" = some (.ref d) ∧ σ.lo "result" = some (.ref t) ∧ σ.H[t]? = some (.tuple (Rl.map .int)) ∧ σ.H[rd]? = some (.list (Rl.map .int)) ∧ KL rd H σ.H ∧
    Rep H0 σ.H s sd d (at4 d (.ref rd) a b) ks io su (fun k => if k ∈ Rl.take j then -1 else np k) sc) Rl.length ?_ ?_ Rl.length 0 100 _ (by omega) (by omega) ⟨m2, m3, m4, ht1, hr1, K1, by simpa using R1⟩).mono ?_))
  · intro j ⟨lo, H2⟩ hj hI
    refine (let Gol : Prop := _; (?_ : Gol))
    obtain ⟨l1, l2, l3, t2, r2, K2, R2⟩ := hI
    dsimp only at l1 l2 l3 t2 r2 K2 R2
    obtain ⟨ep, hd⟩ := R2.hd
    have hk : Rl[j] ∈ ks := hsub _ (List.getElem_mem hj)
    obtain ⟨e, n⟩ := R2.node _ hk
    have lk : lookA (ks.map fun k => (k, AVal.ref (io k))) Rl[j] = some (.ref (io Rl[j])) := by rw [lookA_map, if_pos hk]
    have q1 : put lo "node" (.int Rl[j]) "self" = some (.ref s) := by rw [put_other (by decide)]; exact l1
    have q2 : put lo "node" (.int Rl[j]) "n2i" = some (.ref d) := by rw [put_other (by decide)]; exact l2
    have q3 : put lo "node" (.int Rl[j]) "result" = some (.ref t) := by rw [put_other (by decide)]; exact l3
    have q4 : put lo "node" (.int Rl[j]) "node" = some (.int Rl[j]) := put_same
    unfold Gol; clear Gol
    refine ⟨_, nx_tuple t2 hj, wp_setVb ?_⟩
    generalize put lo "node" (.int Rl[j]) = lo2 at q1 q2 q3 q4
    refine wp_l (ev_setAt ev_I (by rw [ev_bin (ev_getN q2) (ev_getN q4)]; exact ev_subD (σ := ⟨lo2, H2⟩) hd lk) (ev_setSlD n)) ?_
    have R3 := R2.setNp hk (e := e) (-1)
    refine ⟨.inl rfl, q1, q2, q3, set_k t2 n (ne_tag (Nat.ne_of_beq_eq_false rfl)), set_k r2 n (ne_tag (Nat.ne_of_beq_eq_false rfl)), K2.trans (.set n fun _ => ne_tag (Nat.ne_of_beq_eq_false rfl)), ?_⟩
    have ef : fu (fun k => if k ∈ Rl.take j then -1 else np k) Rl[j] (-1) = fun k => if k ∈ Rl.take (j + 1) then -1 else np k := by
      funext k
      by_cases q : k = Rl[j]
      · subst q; rw [fu_same, if_pos ((mem_take1 hj).mpr (.inr rfl))]
      · rw [fu_ne q]; simp only [mem_take1 hj, q, or_false]
    rw [ef] at R3
    exact R3
  · rintro ⟨lo, H2⟩ ⟨l1, l2, l3, t2, r2, K2, R2⟩
    exact nx_tupleE t2
  · rintro f ⟨lo, H2⟩ ⟨rfl, l1, l2, l3, t2, r2, K2, R2⟩
    dsimp only at l1 l2 l3 t2 r2 K2 R2
    rw [List.take_length] at R2
    refine ⟨rfl, ?_⟩
    refine wp_s (ev_exprs ((ev_meth (ev_atD l1 R2.hs R2.hsd at4_r rfl) r2 rfl ev_a0).trans (ev_clear (σ := ⟨lo, H2⟩) r2 hl'))) ?_
    have R3 := R2.setL r2 hg hsr []
    have t3 := set_k (x := .list []) t2 r2 (ne_tag (Nat.ne_of_beq_eq_false rfl))
    have r3 := set_get (o' := .list []) r2
    have K3 := K2.trans (KL.setRd rd H2 (.list []))
    dsimp only
    generalize H2.set rd (.list []) = H3 at R3 t3 r3 K3
    refine wp_s (ev_augAt (ev_getN l1) (ev_getD R3.hs R3.hsd at4_p rfl) (by rw [ev_fnc (ev_ac (ev_getN l3) ev_a0)]; exact ev_lenT (σ := ⟨lo, H3⟩) t3 hl') (ev_ints rfl) (ev_putD R3.hs R3.hsd (by simp))) (wp_l (ev_rets (ev_getN l3)) ?_)
    rw [at4_sp]
    have R4 := R3.setSd (at4 d (.ref rd) (a + ((Rl.map AVal.int).length : Nat)) b)
    rw [List.length_map] at R4 ⊢
    exact ⟨_, rfl, t, rfl, set_k t3 R3.hsd (ne_tag (Nat.ne_of_beq_eq_false rfl)), set_k r3 R3.hsd (ne_tag (Nat.ne_of_beq_eq_false rfl)), R4, K3.trans (.set R3.hsd fun _ => ne_tag (Nat.ne_of_beq_eq_false rfl))⟩
end
end Mine
end

section
open PySem PySem.W PyProof.Rows
set_option autoImplicit false
set_option linter.unusedVariables false
set_option linter.unusedSimpArgs false
namespace Mine
section
variable {H0 H : List AObj} {s sd d rd : Nat} {ks : List Int} {io su : Int → Nat} {np : Int → Int} {sc : Int → List Int} {a b : Int} {Rl : List Int}
theorem doneB_run (R : Rep H0 H s sd d (at4 d (.ref rd) a b) ks io su np sc) (hr : H[rd]? = some (.list (Rl.map .int))) (hg : H0.length ≤ rd) (hsr : ∀ k ∈ ks, su k ≠ rd) (hl : Rl.length ≤ 900) (h6 : ∀ k, (sc k).length ≤ 6) {k : Int} (hk : k ∈ ks) (hnp : np k = -1) (hss : ∀ y ∈ sc k, y ∈ ks)
    {lo : Lo} {t : Nat} {tv : List AVal} (l1 : lo "self" = some (.ref s)) (l2 : lo "n2i" = some (.ref d)) (l3 : lo "node" = some (.int k)) (ht : H[t]? = some (.tuple tv)) :
    Wp dDoneB ⟨lo, H⟩ fun f σ' => f = .next ∧ σ'.lo "self" = some (.ref s) ∧ σ'.lo "n2i" = some (.ref d) ∧ σ'.H[t]? = some (.tuple tv) ∧ σ'.H[rd]? = some (.list ((doneN sc (np, Rl) k).2.map .int)) ∧ KL rd H σ'.H ∧
      Rep H0 σ'.H s sd d (at4 d (.ref rd) a (b + 1)) ks io su (doneN sc (np, Rl) k).1 sc := by
  unfold dDoneB
  obtain ⟨ep, hd⟩ := R.hd
  obtain ⟨e, n⟩ := R.node k hk
  have lk : lookA (ks.map fun k => (k, AVal.ref (io k))) k = some (.ref (io k)) := by rw [lookA_map, if_pos hk]
  refine (let Q0 : AFlow → St → Prop := _; (?_ : Wp _ _ Q0))
  have hne : (np k != -1) = false := by rw [hnp]; rfl
  refine wp_s (ev_guard1 (i := io k) (ev_namedN (by rw [ev_meth (ev_getN l2) hd rfl (ev_ac (ev_getN l3) ev_a0), ev_dget hd, lk]; rfl))) ?_
  refine wp_s (ev_asgN (ev_atS (i := io k) put_same n rfl rfl)) ?_
  refine wp_s ((ev_ifF ((ev_cmp ev_getP ev_I).trans (by show some (np k != -1, _) = _; rw [hne]))).trans rfl) ?_
  have w1 : put (put lo "nodeinfo" (.ref (io k))) "stat" (.int (np k)) "self" = some (.ref s) := (put_other (by decide)).trans ((put_other (by decide)).trans l1)
  have w2 : put (put lo "nodeinfo" (.ref (io k))) "stat" (.int (np k)) "n2i" = some (.ref d) := (put_other (by decide)).trans ((put_other (by decide)).trans l2)
  have w3 : put (put lo "nodeinfo" (.ref (io k))) "stat" (.int (np k)) "nodeinfo" = some (.ref (io k)) := (put_other (by decide)).trans put_same
  generalize put (put lo "nodeinfo" (.ref (io k))) "stat" (.int (np k)) = lo1 at w1 w2 w3
  refine wp_s (ev_setAt ev_I (ev_getN w3) (ev_setSlD n)) ?_
  rw [show setSl [some (AVal.int k), some (AVal.int (np k)), some (AVal.ref (su k))] 1 (.int (-2)) = [some (.int k), some (.int (-2)), some (.ref (su k))] from rfl]
  have R1 := R.setNp hk (e := e) (-2)
  have hr1 := set_k (x := .inst 49 e [some (.int k), some (.int (-2)), some (.ref (su k))]) hr n (ne_tag (Nat.ne_of_beq_eq_false rfl))
  have ht1 := set_k (x := .inst 49 e [some (.int k), some (.int (-2)), some (.ref (su k))]) ht n (ne_tag (Nat.ne_of_beq_eq_false rfl))
  have K1 : KL rd H (H.set (io k) (.inst 49 e [some (.int k), some (.int (-2)), some (.ref (su k))])) := .set n fun _ q => by cases q
  obtain ⟨e1, n1⟩ := R1.node k hk
  have s1 := R1.succ k hk
  generalize H.set (io k) _ = H1 at R1 hr1 ht1 K1 n1 s1
  refine wp_seq (wp_forL (ev_atS w3 n1 rfl rfl) (mk_list s1) ((wp_loop (fun j σ => σ.lo "self" = some (.ref s) ∧ σ.lo "n2i" = some (.ref d) ∧ σ.H[t]? = some (.tuple tv) ∧ σ.H[rd]? = some (.list ((((sc k).take j).foldl dec1 (fu np k (-2), Rl)).2.map .int)) ∧ KL rd H σ.H ∧
    Rep H0 σ.H s sd d (at4 d (.ref rd) a b) ks io su (((sc k).take j).foldl dec1 (fu np k (-2), Rl)).1 sc) (sc k).length ?_ ?_ (sc k).length 0 100 _ (by omega) (by have := h6 k; omega) ⟨w1, w2, ht1, by simpa using hr1, K1, by simpa using R1⟩).mono ?_))
  · intro j ⟨lo2, H2⟩ hj hI
    refine (let Gol : Prop := _; (?_ : Gol))
    obtain ⟨p1, p2, t2, r2, K2, R2⟩ := hI
    unfold Gol; clear Gol
    dsimp only at p1 p2 t2 r2 K2 R2 ⊢
    have efold : ((sc k).take (j + 1)).foldl dec1 (fu np k (-2), Rl) = dec1 (((sc k).take j).foldl dec1 (fu np k (-2), Rl)) (sc k)[j] := by rw [take_snoc hj, List.foldl_append]; rfl
    have hlen := decs_len ((sc k).take j) (fu np k (-2), Rl)
    rw [efold]
    generalize ((sc k).take j).foldl dec1 (fu np k (-2), Rl) = p at r2 R2 hlen
    obtain ⟨np2, Rl2⟩ := p
    dsimp only at r2 R2 hlen
    refine ⟨_, nx_list (R2.succ k hk) hj, ?_⟩
    have hx : (sc k)[j] ∈ ks := hss _ (List.getElem_mem hj)
    generalize (sc k)[j] = x at hx
    obtain ⟨ep2, hd2⟩ := R2.hd
    obtain ⟨e2, n2⟩ := R2.node x hx
    have lk2 : lookA (ks.map fun k => (k, AVal.ref (io k))) x = some (.ref (io x)) := by rw [lookA_map, if_pos hx]
    refine wp_setVb ?_
    have q1 : put lo2 "successor" (.int x) "self" = some (.ref s) := by rw [put_other (by decide)]; exact p1
    have q2 : put lo2 "successor" (.int x) "n2i" = some (.ref d) := by rw [put_other (by decide)]; exact p2
    have q3 : put lo2 "successor" (.int x) "successor" = some (.int x) := put_same
    generalize put lo2 "successor" (.int x) = lo3 at q1 q2 q3
    unfold dDoneS
    refine wp_s (ev_asgN (by rw [ev_bin (ev_getN q2) (ev_getN q3)]; exact ev_subD (σ := ⟨lo3, H2⟩) hd2 lk2)) ?_
    have v1 : put lo3 "successor_info" (.ref (io x)) "self" = some (.ref s) := (put_other (by decide)).trans q1
    have v2 : put lo3 "successor_info" (.ref (io x)) "n2i" = some (.ref d) := (put_other (by decide)).trans q2
    have v3 : put lo3 "successor_info" (.ref (io x)) "successor" = some (.int x) := (put_other (by decide)).trans q3
    have v4 : put lo3 "successor_info" (.ref (io x)) "successor_info" = some (.ref (io x)) := put_same
    generalize put lo3 "successor_info" (.ref (io x)) = lo4 at v1 v2 v3 v4
    refine wp_s (ev_augAt (ev_getN v4) (ev_getSl n2 rfl rfl) ev_I (ev_ints rfl) (ev_setSlD n2)) ?_
    rw [show setSl [some (AVal.int x), some (AVal.int (np2 x)), some (AVal.ref (su x))] 1 (.int (np2 x - 1)) = [some (.int x), some (.int (np2 x - 1)), some (.ref (su x))] from rfl]
    have R3 := R2.setNp hx (e := e2) (np2 x - 1)
    have r3 := set_k (x := .inst 49 e2 [some (.int x), some (.int (np2 x - 1)), some (.ref (su x))]) r2 n2 (ne_tag (Nat.ne_of_beq_eq_false rfl))
    have t3 := set_k (x := .inst 49 e2 [some (.int x), some (.int (np2 x - 1)), some (.ref (su x))]) t2 n2 (ne_tag (Nat.ne_of_beq_eq_false rfl))
    have K3 : KL rd H (H2.set (io x) (.inst 49 e2 [some (.int x), some (.int (np2 x - 1)), some (.ref (su x))])) := K2.trans (.set n2 fun _ => ne_tag (Nat.ne_of_beq_eq_false rfl))
    have n3 := set_get (o' := .inst 49 e2 [some (.int x), some (.int (np2 x - 1)), some (.ref (su x))]) n2
    generalize H2.set (io x) _ = H3 at R3 r3 t3 K3 n3
    by_cases hz : np2 x - 1 = 0
    · have hz' : (np2 x - 1 == 0) = true := by simpa using hz
      have hl3 : (Rl2.map AVal.int).length ≤ 1000 := by rw [List.length_take] at hlen; simp; have := h6 k; omega
      refine wp_l ((ev_ifT ((ev_cmp (ev_atS v4 n3 rfl rfl) ev_I).trans (by show some (np2 x - 1 == 0, _) = _; rw [hz']))).trans (ev_exprs ((ev_meth (ev_atD v1 R3.hs R3.hsd at4_r rfl) r3 rfl (ev_ac (ev_getN v3) ev_a0)).trans (ev_appendN r3 hl3)))) ?_
      refine ⟨.inl rfl, v1, v2, set_k t3 r3 (ne_tag (Nat.ne_of_beq_eq_false rfl)), ?_, K3.trans (KL.setRd _ _ _), ?_⟩
      · rw [set_get r3]; unfold dec1; dsimp only; rw [if_pos hz]; simp
      · exact R3.setL r3 hg hsr _
    · have hz' : (np2 x - 1 == 0) = false := by simpa using hz
      refine wp_l ((ev_ifF ((ev_cmp (ev_atS v4 n3 rfl rfl) ev_I).trans (by show some (np2 x - 1 == 0, _) = _; rw [hz']))).trans rfl) ?_
      refine ⟨.inl rfl, v1, v2, t3, ?_, K3, R3⟩
      unfold dec1; dsimp only; rw [if_neg hz]; exact r3
  · rintro ⟨lo2, H2⟩ ⟨p1, p2, t2, r2, K2, R2⟩
    exact nx_listE (R2.succ k hk)
  · rintro f ⟨lo2, H2⟩ ⟨rfl, p1, p2, t2, r2, K2, R2⟩
    dsimp only at p1 p2 t2 r2 K2 R2
    rw [List.take_length] at r2 R2
    refine ⟨rfl, ?_⟩
    refine wp_l (ev_augAt (ev_getN p1) (ev_getD R2.hs R2.hsd at4_f rfl) ev_I (ev_ints rfl) (ev_putD R2.hs R2.hsd (by simp))) ?_
    rw [at4_sf]
    exact ⟨rfl, p1, p2, set_k t2 R2.hsd (ne_tag (Nat.ne_of_beq_eq_false rfl)), set_k r2 R2.hsd (ne_tag (Nat.ne_of_beq_eq_false rfl)), K2.trans (.set R2.hsd fun _ => ne_tag (Nat.ne_of_beq_eq_false rfl)), R2.setSd _⟩
theorem done_run (R : Rep H0 H s sd d (at4 d (.ref rd) a b) ks io su np sc) (hr : H[rd]? = some (.list [])) (hg : H0.length ≤ rd) (hsr : ∀ k ∈ ks, su k ≠ rd) (h6 : ∀ k, (sc k).length ≤ 6) (hl : Rl.length ≤ 42) (hsub : ∀ k ∈ Rl, k ∈ ks) (hss : ∀ k ∈ ks, ∀ y ∈ sc k, y ∈ ks)
    (hok : ∀ j (h : j < Rl.length), ((Rl.take j).foldl (doneN sc) (np, [])).1 Rl[j] = -1) :
    WF (fDone (.ref s :: Rl.map .int)) H fun v H' => v = .none ∧ H'[rd]? = some (.list ((Rl.foldl (doneN sc) (np, [])).2.map .int)) ∧ KL rd H H' ∧ Rep H0 H' s sd d (at4 d (.ref rd) a (b + Rl.length)) ks io su (Rl.foldl (doneN sc) (np, [])).1 sc := by
  unfold fDone
  refine wf_run (l := [("self", .ref s), ("nodes", .ref H.length)]) (H₁ := H ++ [.tuple (Rl.map .int)]) (by unfold bdS1; dsimp only; rw [if_pos (by simp; omega)]) ?_
  unfold dDone
  refine (let Q0 : AFlow → St → Prop := _; (?_ : Wp _ _ Q0))
  have l1 : loB [("self", .ref s), ("nodes", .ref H.length)] (fun _ => none) "self" = some (.ref s) := lo2a (by decide)
  have l2 : loB [("self", .ref s), ("nodes", .ref H.length)] (fun _ => none) "nodes" = some (.ref H.length) := lo2b
  generalize loB [("self", .ref s), ("nodes", .ref H.length)] (fun _ => none) = lo at l1 l2
  have R1 := R.app [.tuple (Rl.map .int)]
  have hr1 := get_app (l := [AObj.tuple (Rl.map .int)]) hr
  have ht1 : (H ++ [AObj.tuple (Rl.map .int)])[H.length]? = some (.tuple (Rl.map .int)) := get_new
  have K1 := KL.app rd H [AObj.tuple (Rl.map .int)]
  generalize H ++ [AObj.tuple (Rl.map .int)] = H1 at R1 hr1 ht1 K1
  generalize H.length = t at ht1 l2
  refine wp_s (ev_guard1 (ev_atD l1 R1.hs R1.hsd at4_r rfl)) (wp_s (ev_asgN (ev_atD l1 R1.hs R1.hsd at4_n rfl)) ?_)
  have m1 : put lo "n2i" (.ref d) "self" = some (.ref s) := (put_other (by decide)).trans l1
  have m2 : put lo "n2i" (.ref d) "n2i" = some (.ref d) := put_same
  have m3 : put lo "n2i" (.ref d) "nodes" = some (.ref t) := (put_other (by decide)).trans l2
  generalize put lo "n2i" (.ref d) = lo1 at m1 m2 m3
  refine wp_forL (ev_getN m3) (mk_tuple ht1) ((wp_loop (fun j σ => σ.lo "self" = some (.ref s) ∧ σ.lo "n2i" = some (.ref d) ∧ σ.H[t]? = some (.tuple (Rl.map .int)) ∧ σ.H[rd]? = some (.list (((Rl.take j).foldl (doneN sc) (np, [])).2.map .int)) ∧ KL rd H σ.H ∧
    Rep H0 σ.H s sd d (at4 d (.ref rd) a (b + j)) ks io su ((Rl.take j).foldl (doneN sc) (np, [])).1 sc) Rl.length ?_ ?_ Rl.length 0 100 _ (by omega) (by omega) ⟨m1, m2, ht1, by simpa using hr1, K1, by simpa using R1⟩).mono ?_)
  · intro j ⟨lo, H2⟩ hj hI
    refine (let Gol : Prop := _; (?_ : Gol))
    obtain ⟨l1, l2, t2, r2, K2, R2⟩ := hI
    unfold Gol; clear Gol
    dsimp only at l1 l2 t2 r2 K2 R2 ⊢
    refine ⟨_, nx_tuple t2 hj, ?_⟩
    have hk : Rl[j] ∈ ks := hsub _ (List.getElem_mem hj)
    have efold : (Rl.take (j + 1)).foldl (doneN sc) (np, []) = doneN sc ((Rl.take j).foldl (doneN sc) (np, [])) Rl[j] := by rw [take_snoc hj, List.foldl_append]; rfl
    have hlen := dones_len h6 (Rl.take j) (np, [])
    have hnp := hok j hj
    rw [efold]
    generalize (Rl.take j).foldl (doneN sc) (np, []) = p at r2 R2 hlen hnp
    obtain ⟨np2, Rl2⟩ := p
    dsimp only at r2 R2 hlen hnp
    refine wp_setVb ?_
    have q1 : put lo "node" (.int Rl[j]) "self" = some (.ref s) := by rw [put_other (by decide)]; exact l1
    have q2 : put lo "node" (.int Rl[j]) "n2i" = some (.ref d) := by rw [put_other (by decide)]; exact l2
    refine (doneB_run R2 r2 hg hsr (by rw [List.length_take] at hlen; simp at hlen; omega) h6 hk hnp (hss _ hk) q1 q2 put_same t2).mono ?_
    rintro f σ' ⟨rfl, h1, h2, h3, h4, h5, h7⟩
    refine ⟨.inl rfl, h1, h2, h3, h4, K2.trans h5, ?_⟩
    have : b + ((j + 1 : Nat) : Int) = b + (j : Int) + 1 := by omega
    rw [this]; exact h7
  · rintro ⟨lo, H2⟩ ⟨l1, l2, t2, r2, K2, R2⟩
    exact nx_tupleE t2
  · rintro f ⟨lo, H2⟩ ⟨rfl, l1, l2, t2, r2, K2, R2⟩
    dsimp only at r2 K2 R2
    rw [List.take_length] at r2 R2
    exact ⟨.none, rfl, rfl, r2, K2, R2⟩
end
end Mine
end

section
open PySem PySem.W PyProof.Rows
set_option autoImplicit false
set_option linter.unusedVariables false
set_option linter.unusedSimpArgs false
namespace Mine
theorem decs_eq : ∀ (l : List Int) (p : (Int → Int) × List Int), l.Nodup → (∀ x, (l.foldl dec1 p).1 x = p.1 x - (if x ∈ l then 1 else 0)) ∧ (l.foldl dec1 p).2 = p.2 ++ l.filter fun x => p.1 x - 1 = 0 := by
  intro l
  induction l with
  | nil => intro p _; exact ⟨fun x => by simp, by simp⟩
  | cons y l ih =>
    intro p hn
    obtain ⟨h1, h2⟩ := List.nodup_cons.mp hn
    obtain ⟨i1, i2⟩ := ih (dec1 p y) h2
    rw [List.foldl_cons]
    have hne : ∀ x ∈ l, (dec1 p y).1 x = p.1 x := fun x hx => fu_ne fun q => h1 (q ▸ hx)
    refine ⟨fun x => ?_, ?_⟩
    · rw [i1 x]
      by_cases q : x = y
      · subst q
        rw [if_neg h1, if_pos List.mem_cons_self]
        show fu p.1 x (p.1 x - 1) x - 0 = _
        rw [fu_same]; omega
      · show fu p.1 y (p.1 y - 1) x - _ = _
        rw [fu_ne q]
        have : (x ∈ y :: l) ↔ x ∈ l := by simp [q]
        simp only [this]
    · rw [i2]
      have e : l.filter (fun x => decide ((dec1 p y).1 x - 1 = 0)) = l.filter fun x => decide (p.1 x - 1 = 0) := List.filter_congr fun x hx => by rw [hne x hx]
      rw [e, List.filter_cons]
      show (if p.1 y - 1 = 0 then p.2 ++ [y] else p.2) ++ _ = _
      by_cases q : p.1 y - 1 = 0
      · simp [q]
      · simp [q]
/-- how many of those below are not in l -/
noncomputable def cnt (bel : Int → List Int) (l : List Int) (x : Int) : Int := ((bel x).filter fun y => decide (y ∉ l)).length
theorem cnt_zero {bel : Int → List Int} {l : List Int} {x : Int} : cnt bel l x = 0 ↔ ∀ y ∈ bel x, y ∈ l := by
  unfold cnt
  rw [Int.natCast_eq_zero, List.length_eq_zero_iff, List.filter_eq_nil_iff]
  constructor
  · intro h y hy; have := h y hy; simpa using this
  · intro h y hy; have := h y hy; simpa using this
theorem cnt_same {bel : Int → List Int} {l : List Int} {x k : Int} (h : k ∉ bel x) : cnt bel (l ++ [k]) x = cnt bel l x := by
  unfold cnt
  rw [List.filter_congr (q := fun y => decide (y ∉ l)) fun y hy => ?_]
  have : y ≠ k := fun q => h (q ▸ hy)
  simp [this]
theorem len_drop1 {k : Int} {p : Int → Bool} (hp : p k = true) : ∀ (l : List Int), l.Nodup → k ∈ l → (l.filter p).length = (l.filter fun y => p y && decide (y ≠ k)).length + 1 := by
  intro l
  induction l with
  | nil => intro _ h; cases h
  | cons y l ih =>
    intro hn hk
    obtain ⟨h1, h2⟩ := List.nodup_cons.mp hn
    by_cases q : y = k
    · subst q
      have e : l.filter (fun z => p z && decide (z ≠ y)) = l.filter p := List.filter_congr fun z hz => by
        have : z ≠ y := fun q => h1 (q ▸ hz)
        simp [this]
      rw [List.filter_cons, if_pos hp, List.filter_cons, if_neg (by simp), e]; simp
    · have hk' : k ∈ l := (List.mem_cons.mp hk).resolve_left (Ne.symm q)
      have := ih h2 hk'
      rw [List.filter_cons, List.filter_cons]
      by_cases r : p y = true
      · rw [if_pos r, if_pos (by simp [r, q])]; simp only [List.length_cons]; omega
      · rw [if_neg r, if_neg (by simp [r])]; exact this
theorem cnt_drop {bel : Int → List Int} {l : List Int} {x k : Int} (hn : (bel x).Nodup) (hk : k ∈ bel x) (hl : k ∉ l) : cnt bel l x = cnt bel (l ++ [k]) x + 1 := by
  unfold cnt
  rw [len_drop1 (k := k) (p := fun y => decide (y ∉ l)) (by simpa using hl) _ hn hk]
  have e : (bel x).filter (fun y => decide (y ∉ l) && decide (y ≠ k)) = (bel x).filter fun y => decide (y ∉ l ++ [k]) := List.filter_congr fun y _ => by
    rw [← Bool.decide_and]
    simp
  rw [e]; omega
structure PInv (fam : List Int) (bel : Int → List Int) (dn R P : List Int) (p : (Int → Int) × List Int) : Prop where
  np : ∀ k ∈ fam, p.1 k = if k ∈ dn ++ P then -2 else if k ∈ R then -1 else cnt bel (dn ++ P) k
  rnd : p.2.Nodup
  rm : ∀ x, x ∈ p.2 ↔ x ∈ fam ∧ x ∉ dn ∧ x ∉ R ∧ cnt bel (dn ++ P) x = 0
section
variable {fam : List Int} {bel : Int → List Int} {dn R : List Int} {sc : Int → List Int}
theorem PInv.step (hfn : fam.Nodup) (hbn : ∀ x ∈ fam, (bel x).Nodup) (hsc : ∀ y, sc y = fam.filter fun x => decide (y ∈ bel x)) (A1 : ∀ x ∈ dn, ∀ y ∈ bel x, y ∈ dn) (A2 : ∀ x ∈ R, x ∈ fam ∧ x ∉ dn ∧ ∀ y ∈ bel x, y ∈ dn) (hR : R.Nodup)
    {P : List Int} {p : (Int → Int) × List Int} {k : Int} (h : PInv fam bel dn R P p) (hPk : ∀ x ∈ P, x ∈ R) (hk : k ∈ R) (hkP : k ∉ P) : p.1 k = -1 ∧ PInv fam bel dn R (P ++ [k]) (doneN sc p k) := by
  obtain ⟨kf, kd, kb⟩ := A2 k hk
  have kn : k ∉ dn ++ P := fun q => (List.mem_append.mp q).elim kd hkP
  have hk1 : p.1 k = -1 := by rw [h.np k kf, if_neg kn, if_pos hk]
  have msc : ∀ x, x ∈ sc k ↔ x ∈ fam ∧ k ∈ bel x := fun x => by rw [hsc]; simp
  have scn : (sc k).Nodup := by rw [hsc]; exact hfn.filter _
  have s1 : ∀ x ∈ sc k, x ∉ dn := fun x hx q => kd (A1 x q k ((msc x).mp hx).2)
  have s2 : ∀ x ∈ sc k, x ∉ R := fun x hx q => kd ((A2 x q).2.2 k ((msc x).mp hx).2)
  have s3 : ∀ x ∈ sc k, x ≠ k := fun x hx q => s2 x hx (q ▸ hk)
  have s4 : ∀ x ∈ sc k, p.1 x = cnt bel (dn ++ P) x ∧ cnt bel (dn ++ P) x = cnt bel (dn ++ (P ++ [k])) x + 1 := fun x hx => by
    obtain ⟨m1, m2⟩ := (msc x).mp hx
    refine ⟨?_, ?_⟩
    · rw [h.np x m1, if_neg fun q => (List.mem_append.mp q).elim (s1 x hx) fun q => s2 x hx (hPk x q), if_neg (s2 x hx)]
    · rw [← List.append_assoc]; exact cnt_drop (hbn x m1) m2 kn
  have s5 : ∀ x ∈ fam, x ∉ sc k → cnt bel (dn ++ (P ++ [k])) x = cnt bel (dn ++ P) x := fun x hx q => by
    rw [← List.append_assoc]; exact cnt_same fun r => q ((msc x).mpr ⟨hx, r⟩)
  obtain ⟨d1, d2⟩ := decs_eq (sc k) (fu p.1 k (-2), p.2) scn
  refine ⟨hk1, ⟨fun x hx => ?_, ?_, fun x => ?_⟩⟩
  · unfold doneN
    rw [d1 x]
    by_cases q : x = k
    · subst q
      rw [if_neg fun q => s3 x q rfl, if_pos (by simp)]
      show fu p.1 x (-2) x - 0 = -2
      rw [fu_same]; rfl
    · show fu p.1 k (-2) x - _ = _
      rw [fu_ne q]
      have e1 : (x ∈ dn ++ (P ++ [k])) ↔ x ∈ dn ++ P := by simp [q]
      by_cases m : x ∈ sc k
      · obtain ⟨q1, q2⟩ := s4 x m
        have n1 : x ∉ dn ++ P := fun q => (List.mem_append.mp q).elim (s1 x m) fun q => s2 x m (hPk x q)
        rw [if_pos m, if_neg (fun q => n1 (e1.mp q)), if_neg (s2 x m), q1, q2]; omega
      · rw [if_neg m, h.np x hx, s5 x hx m]
        simp only [e1]; omega
  · unfold doneN
    rw [d2]
    refine List.nodup_append.mpr ⟨h.rnd, scn.filter _, fun x hx y hy q => ?_⟩
    subst q
    have := ((h.rm x).mp hx).2.2.2
    have hm := (List.mem_filter.mp hy).1
    have := (s4 x hm).2
    have : 0 ≤ cnt bel (dn ++ (P ++ [k])) x := by unfold cnt; omega
    omega
  · unfold doneN
    rw [d2, List.mem_append, h.rm, List.mem_filter]
    constructor
    · rintro (⟨q1, q2, q3, q4⟩ | ⟨q1, q2⟩)
      · have hm : x ∉ sc k := fun m => by
          have := (s4 x m).2
          have : 0 ≤ cnt bel (dn ++ (P ++ [k])) x := by unfold cnt; omega
          omega
        exact ⟨q1, q2, q3, by rw [s5 x q1 hm]; exact q4⟩
      · have q2' : fu p.1 k (-2) x - 1 = 0 := of_decide_eq_true q2
        rw [fu_ne (s3 x q1)] at q2'
        obtain ⟨r1, r2⟩ := s4 x q1
        exact ⟨((msc x).mp q1).1, s1 x q1, s2 x q1, by omega⟩
    · rintro ⟨q1, q2, q3, q4⟩
      by_cases m : x ∈ sc k
      · obtain ⟨r1, r2⟩ := s4 x m
        refine .inr ⟨m, decide_eq_true ?_⟩
        show fu p.1 k (-2) x - 1 = 0
        rw [fu_ne (s3 x m)]; omega
      · exact .inl ⟨q1, q2, q3, by rw [← s5 x q1 m]; exact q4⟩
structure LInv (fam : List Int) (bel : Int → List Int) (dn R : List Int) (np : Int → Int) : Prop where
  np : ∀ k ∈ fam, np k = if k ∈ dn then -2 else cnt bel dn k
  rnd : R.Nodup
  rm : ∀ x, x ∈ R ↔ x ∈ fam ∧ x ∉ dn ∧ cnt bel dn x = 0
  dnd : dn.Nodup
  dsub : ∀ x ∈ dn, x ∈ fam
  ord : ∀ j (h : j < dn.length), ∀ y ∈ bel dn[j], y ∈ dn.take j
theorem LInv.a1 {np : Int → Int} (h : LInv fam bel dn R np) : ∀ x ∈ dn, ∀ y ∈ bel x, y ∈ dn := fun x hx y hy => by
  obtain ⟨j, hj, rfl⟩ := List.mem_iff_getElem.mp hx
  exact List.mem_of_mem_take (h.ord j hj y hy)
theorem LInv.a2 {np : Int → Int} (h : LInv fam bel dn R np) : ∀ x ∈ R, x ∈ fam ∧ x ∉ dn ∧ ∀ y ∈ bel x, y ∈ dn := fun x hx => by
  obtain ⟨q1, q2, q3⟩ := (h.rm x).mp hx
  exact ⟨q1, q2, cnt_zero.mp q3⟩
theorem LInv.start {np : Int → Int} (h : LInv fam bel dn R np) : PInv fam bel dn R [] (fun k => if k ∈ R then -1 else np k, []) := by
  refine ⟨fun k hk => ?_, List.nodup_nil, fun x => ?_⟩
  · rw [List.append_nil]
    dsimp only
    by_cases q : k ∈ R
    · rw [if_pos q, if_neg (h.a2 k q).2.1, if_pos q]
    · rw [if_neg q, h.np k hk]; simp only [q, if_false]
  · rw [List.append_nil]
    constructor
    · intro q; cases q
    · rintro ⟨q1, q2, q3, q4⟩; exact (q3 ((h.rm x).mpr ⟨q1, q2, q4⟩)).elim
theorem LInv.pre {np : Int → Int} (hfn : fam.Nodup) (hbn : ∀ x ∈ fam, (bel x).Nodup) (hsc : ∀ y, sc y = fam.filter fun x => decide (y ∈ bel x)) (h : LInv fam bel dn R np) : ∀ j, j ≤ R.length → PInv fam bel dn R (R.take j) ((R.take j).foldl (doneN sc) (fun k => if k ∈ R then -1 else np k, [])) := by
  intro j
  induction j with
  | zero => intro _; exact h.start
  | succ j ih =>
    intro hj
    have i := ih (by omega)
    have hj' : j < R.length := by omega
    have hnj : R[j] ∉ R.take j := fun q => by
      have h1 := h.rnd
      rw [← List.take_append_drop j R] at h1
      exact (List.nodup_append.mp h1).2.2 _ q _ (List.mem_drop_iff_getElem.mpr ⟨0, by omega, by simp⟩) rfl
    have := (i.step hfn hbn hsc h.a1 h.a2 h.rnd (fun x hx => List.mem_of_mem_take hx) (List.getElem_mem hj') hnj).2
    rw [take_snoc hj', List.foldl_append]
    exact this
theorem LInv.ok {np : Int → Int} (hfn : fam.Nodup) (hbn : ∀ x ∈ fam, (bel x).Nodup) (hsc : ∀ y, sc y = fam.filter fun x => decide (y ∈ bel x)) (h : LInv fam bel dn R np) : ∀ j (hj : j < R.length), ((R.take j).foldl (doneN sc) (fun k => if k ∈ R then -1 else np k, [])).1 R[j] = -1 := fun j hj => by
  have i := h.pre hfn hbn hsc j (by omega)
  have hnj : R[j] ∉ R.take j := fun q => by
    have h1 := h.rnd
    rw [← List.take_append_drop j R] at h1
    exact (List.nodup_append.mp h1).2.2 _ q _ (List.mem_drop_iff_getElem.mpr ⟨0, by omega, by simp⟩) rfl
  exact (i.step hfn hbn hsc h.a1 h.a2 h.rnd (fun x hx => List.mem_of_mem_take hx) (List.getElem_mem hj) hnj).1
theorem LInv.next {np : Int → Int} (hfn : fam.Nodup) (hbn : ∀ x ∈ fam, (bel x).Nodup) (hsc : ∀ y, sc y = fam.filter fun x => decide (y ∈ bel x)) (h : LInv fam bel dn R np) :
    LInv fam bel (dn ++ R) (R.foldl (doneN sc) (fun k => if k ∈ R then -1 else np k, [])).2 (R.foldl (doneN sc) (fun k => if k ∈ R then -1 else np k, [])).1 := by
  have i := h.pre hfn hbn hsc R.length (Nat.le_refl _)
  rw [List.take_length] at i
  refine ⟨fun k hk => ?_, i.rnd, fun x => ?_, ?_, fun x hx => ?_, fun j hj y hy => ?_⟩
  · rw [i.np k hk]
    by_cases q : k ∈ dn ++ R
    · rw [if_pos q, if_pos q]
    · rw [if_neg q, if_neg q, if_neg fun r => q (List.mem_append_right _ r)]
  · rw [i.rm, List.mem_append, not_or, and_assoc]
  · exact List.nodup_append.mpr ⟨h.dnd, h.rnd, fun x hx y hy q => (h.a2 y hy).2.1 (q ▸ hx)⟩
  · rcases List.mem_append.mp hx with hx | hx
    · exact h.dsub x hx
    · exact (h.a2 x hx).1
  · by_cases q : j < dn.length
    · rw [List.getElem_append_left q] at hy
      rw [List.take_append_of_le_length (by omega)]
      exact h.ord j q y hy
    · rw [List.getElem_append_right (by omega)] at hy
      have := (h.a2 _ (List.getElem_mem _)).2.2 y hy
      rw [List.take_append, List.take_of_length_le (by omega)]
      exact List.mem_append_left _ this
theorem LInv.all {np : Int → Int} (h : LInv fam bel dn [] np) (hlt : ∀ x ∈ fam, ∀ y ∈ bel x, y ∈ fam ∧ 0 ≤ y ∧ y < x) : ∀ x ∈ fam, x ∈ dn := by
  have : ∀ (n : Nat) (x : Int), x.toNat < n → x ∈ fam → x ∈ dn := by
    intro n
    induction n with
    | zero => intro x hx; omega
    | succ n ih =>
      intro x hx hf
      refine Classical.byContradiction fun q => ?_
      have : x ∈ ([] : List Int) := (h.rm x).mpr ⟨hf, q, cnt_zero.mpr fun y hy => by
        obtain ⟨h1, h2, h3⟩ := hlt x hf y hy
        exact ih y (by omega) h1⟩
      cases this
  exact fun x hx => this (x.toNat + 1) x (by omega) hx
end
end Mine
end

section
open PySem PySem.W PyProof.Rows
set_option autoImplicit false
set_option linter.unusedVariables false
set_option linter.unusedSimpArgs false
namespace Mine
section
variable {H0 H : List AObj} {s sd d rd oi : Nat} {ks fam : List Int} {bel : Int → List Int} {io su : Int → Nat} {np : Int → Int} {sc : Int → List Int} {Rl : List Int}
theorem turns_run (R : Rep H0 H s sd d (at4 d (.ref rd) 0 0) ks io su np sc) (I0 : LInv fam bel [] Rl np) (hr : H[rd]? = some (.list (Rl.map .int))) (ho : H[oi]? = some (.list [])) (hgr : H0.length ≤ rd) (hgo : H0.length ≤ oi) (hor : oi ≠ rd) (hsr : ∀ k ∈ ks, su k ≠ rd) (hso : ∀ k ∈ ks, su k ≠ oi)
    (hks : ∀ x, x ∈ ks ↔ x ∈ fam) (h6 : fam.length ≤ 6) (hfn : fam.Nodup) (hbn : ∀ x ∈ fam, (bel x).Nodup) (hsc : ∀ y, sc y = fam.filter fun x => decide (y ∈ bel x)) (hlt : ∀ x ∈ fam, ∀ y ∈ bel x, y ∈ fam ∧ 0 ≤ y ∧ y < x)
    {lo : Lo} (l1 : lo "sorter" = some (.ref s)) (l2 : lo "order" = some (.ref oi)) :
    Wp (dWhile (do let v ← callM 146 "is_active" (getV "sorter") a0 fAct; truthA v) dTurn nil' 100) ⟨lo, H⟩ fun f σ' => f = .next ∧ (∀ y : Str, y ≠ "ready" → σ'.lo y = lo y) ∧ Over H0 σ'.H ∧ ∃ dn : List Int, σ'.H[oi]? = some (.list (dn.map .int)) ∧
      dn.length ≤ 6 ∧ dn.Nodup ∧ (∀ x, x ∈ dn ↔ x ∈ fam) ∧ (∀ j (h : j < dn.length), ∀ y ∈ bel dn[j], y ∈ dn.take j) := by
  have hs6 : ∀ k, (sc k).length ≤ 6 := fun k => by
    rw [hsc]
    exact Nat.le_trans (List.length_filter_le ..) h6
  have hss : ∀ k ∈ ks, ∀ y ∈ sc k, y ∈ ks := fun k _ y hy => by
    rw [hsc] at hy
    exact (hks y).mpr (List.mem_filter.mp hy).1
  refine wp_while2 (fun i σ => (∀ y : Str, y ≠ "ready" → σ.lo y = lo y) ∧ ∃ (dn Rl : List Int) (np : Int → Int) (a : Int), Rep H0 σ.H s sd d (at4 d (.ref rd) a a) ks io su np sc ∧ LInv fam bel dn Rl np ∧ σ.H[rd]? = some (.list (Rl.map .int)) ∧ σ.H[oi]? = some (.list (dn.map .int)) ∧ dn.length + i = fam.length) ?_ 100 fam.length _ (by omega)
    ⟨fun _ _ => rfl, [], Rl, np, 0, R, I0, hr, ho, by simp⟩
  intro i ⟨lo1, H1⟩ hI
  refine (let Gol : Prop := _; (?_ : Gol))
  obtain ⟨L, dn, R1, np1, a, Rp, I, hr1, ho1, hi⟩ := hI
  dsimp only at L Rp hr1 ho1
  have hdl : dn.length ≤ fam.length := nodup_len dn fam I.dnd I.dsub
  have hrl : R1.length ≤ fam.length := nodup_len R1 fam I.rnd fun x hx => ((I.rm x).mp hx).1
  have m1 : lo1 "sorter" = some (.ref s) := (L _ (by decide)).trans l1
  have m2 : lo1 "order" = some (.ref oi) := (L _ (by decide)).trans l2
  obtain ⟨v, H2, eA, rfl, hH⟩ := act_run Rp hr1 (by omega) rfl
  rw [hH] at eA
  have ht : (do let v ← callM 146 "is_active" (getV "sorter") a0 fAct; truthA v : M Bool) ⟨lo1, H1⟩ = some (!R1.isEmpty, ⟨lo1, H1⟩) := by
    rw [ev_bind (ev_callM m1 Rp.hs Rp.hsd (at4_o (by decide)) ev_a0 eA)]; rfl
  cases R1 with
  | nil => exact .inl ⟨_, ht, wp_pure.mpr ⟨rfl, L, Rp.over, dn, ho1, by omega, I.dnd, fun x => ⟨I.dsub x, I.all hlt x⟩, I.ord⟩⟩
  | cons r0 rs =>
    have ht' : (do let v ← callM 146 "is_active" (getV "sorter") a0 fAct; truthA v : M Bool) ⟨lo1, H1⟩ = some (true, ⟨lo1, H1⟩) := ht
    clear ht
    have hrne : 0 < (r0 :: rs).length := by simp
    generalize r0 :: rs = R1 at I hr1 hrl hrne
    have hsub : ∀ k ∈ R1, k ∈ ks := fun k hk => (hks k).mpr ((I.rm k).mp hk).1
    obtain ⟨v, H3, eR, t, rfl, t3, r3, Rp3, K3⟩ := ready_run Rp hr1 hgr hsr hsub (by omega)
    have m3 : put lo1 "ready" (.ref t) "ready" = some (.ref t) := put_same
    have m4 : put lo1 "ready" (.ref t) "sorter" = some (.ref s) := by rw [put_other (by decide)]; exact m1
    have m5 : put lo1 "ready" (.ref t) "order" = some (.ref oi) := by rw [put_other (by decide)]; exact m2
    have L3 : ∀ y : Str, y ≠ "ready" → put lo1 "ready" (.ref t) y = lo y := fun y hy => by rw [put_other hy]; exact L y hy
    have a1 : asg "ready" (callM 146 "get_ready" (getV "sorter") a0 fReady) ⟨lo1, H1⟩ = some (.next, ⟨put lo1 "ready" (.ref t), H3⟩) := ev_asgN (ev_callM m1 Rp.hs Rp.hsd (at4_o (by decide)) ev_a0 eR)
    generalize put lo1 "ready" (.ref t) = lo3 at m3 m4 m5 L3 a1
    have o3 := K3 oi _ hor ho1
    have hle : (dn.map AVal.int).length + (R1.map AVal.int).length ≤ 1000 := by simp; omega
    have a2 : exprs (meth "list" (getV "order") extendD (ac (getV "ready") a0)) ⟨lo3, H3⟩ = some (.next, ⟨lo3, H3.set oi (.list (dn.map .int ++ R1.map .int))⟩) := ev_exprs ((ev_meth (ev_getN m5) o3 rfl (ev_ac (ev_getN m3) ev_a0)).trans (ev_extend (σ := ⟨lo3, H3⟩) o3 t3 hle))
    have Rp4 := Rp3.setL o3 hgo hso (dn.map .int ++ R1.map .int)
    have o4 := set_get (o' := .list (dn.map .int ++ R1.map .int)) o3
    have t4 := set_k (x := .list (dn.map .int ++ R1.map .int)) t3 o3 (ne_tag (Nat.ne_of_beq_eq_false rfl))
    have r4 := set_ne (o' := .list (dn.map .int ++ R1.map .int)) r3 hor
    generalize H3.set oi _ = H4 at Rp4 o4 t4 r4 a2
    have hle2 : (R1.map AVal.int).length ≤ 1000 := by simp; omega
    obtain ⟨v, H5, eD, rfl, r5, K5, Rp5⟩ := done_run Rp4 r4 hgr hsr hs6 (by omega) hsub hss (I.ok hfn hbn hsc)
    have a3 : exprs (callM 146 "done" (getV "sorter") (do let v ← getV "ready"; starD v) fDone) ⟨lo3, H4⟩ = some (.next, ⟨lo3, H5⟩) := ev_exprs (ev_callM m4 Rp4.hs Rp4.hsd (at4_o (by decide)) (by rw [ev_bind (ev_getN m3)]; exact ev_starT (σ := ⟨lo3, H4⟩) t4 hle2) eD)
    have hnx := I.next hfn hbn hsc
    have hnl := nodup_len (dn ++ R1) fam hnx.dnd hnx.dsub
    rw [List.length_append] at hnl
    unfold Gol; clear Gol
    refine .inr ⟨_, ht', wp_l (by unfold dTurn; exact (ev_seq a1).trans ((ev_seq a2).trans a3)) ?_⟩
    refine ⟨i - R1.length, by omega, L3, dn ++ R1, _, _, a + R1.length, Rp5, I.next hfn hbn hsc, r5, ?_, ?_⟩
    · rw [List.map_append]; exact K5 oi _ hor o4
    · rw [List.length_append]; omega
end
end Mine
end

section
open PySem PySem.W PyProof.Rows
set_option autoImplicit false
set_option linter.unusedVariables false
set_option linter.unusedSimpArgs false
namespace Mine
/-! those below, the shares: plain -/
noncomputable def belF (fam : List Int) (x : Int) : List Int := fam.filter fun y => y != x && An x y == y
noncomputable def gF (fam : List Int) (Wt : Int → Int) : Nat → Int → Int
  | 0, _ => 0
  | n + 1, x => Wt x - sumL (gF fam Wt n) (belF fam x)
noncomputable def gV (fam : List Int) (Wt : Int → Int) (x : Int) : Int := gF fam Wt ((belF fam x).length + 1) x
section
variable {fam : List Int} {Wt : Int → Int}
theorem bel_mem {x y : Int} : y ∈ belF fam x ↔ y ∈ fam ∧ y ≠ x ∧ An x y = y := by
  unfold belF
  rw [List.mem_filter]
  simp
theorem bel_nd (ok : FamOk fam) (x : Int) : (belF fam x).Nodup := ok.nd.filter _
theorem bel_six (ok : FamOk fam) (x : Int) : (belF fam x).length ≤ 6 := Nat.le_trans (List.length_filter_le ..) ok.six
theorem bel_lt (ok : FamOk fam) {x y : Int} (hx : x ∈ fam) (hy : y ∈ belF fam x) : y ∈ fam ∧ 0 ≤ y ∧ y < x := by
  obtain ⟨h1, h2, h3⟩ := bel_mem.mp hy
  have := an_le (ok.pos x hx) (ok.pos y h1)
  rw [h3] at this
  exact ⟨h1, ok.pos y h1, by omega⟩
theorem bel_trans (ok : FamOk fam) {x y z : Int} (hx : x ∈ fam) (hy : y ∈ belF fam x) (hz : z ∈ belF fam y) : z ∈ belF fam x := by
  obtain ⟨y1, y2, y3⟩ := bel_mem.mp hy
  obtain ⟨z1, z2, z3⟩ := bel_mem.mp hz
  have l1 := (bel_lt ok hx hy).2.2
  have l2 := (bel_lt ok y1 hz).2.2
  refine bel_mem.mpr ⟨z1, by omega, ?_⟩
  have : An (An x y) z = An x (An y z) := an_assoc (ok.pos x hx) (ok.pos y y1) (ok.pos z z1)
  rw [y3, z3] at this
  exact this.symm
theorem bel_rank (ok : FamOk fam) {x y : Int} (hx : x ∈ fam) (hy : y ∈ belF fam x) : (belF fam y).length < (belF fam x).length := by
  have h := nodup_len (y :: belF fam y) (belF fam x) (List.nodup_cons.mpr ⟨fun q => (bel_mem.mp q).2.1 rfl, bel_nd ok y⟩) fun z hz => by
    rcases List.mem_cons.mp hz with rfl | hz
    · exact hy
    · exact bel_trans ok hx hy hz
  simp only [List.length_cons] at h
  omega
theorem gF_eq (ok : FamOk fam) : ∀ (n m : Nat) (x : Int), x ∈ fam → (belF fam x).length < n → (belF fam x).length < m → gF fam Wt n x = gF fam Wt m x := by
  intro n
  induction n with
  | zero => intro m x _ h; omega
  | succ n ih =>
    intro m x hx h1 h2
    obtain ⟨k, rfl⟩ : ∃ k, m = k + 1 := ⟨m - 1, by omega⟩
    unfold gF
    rw [sumL_congr fun y hy => ih k y (bel_lt ok hx hy).1 (by have := bel_rank ok hx hy; omega) (by have := bel_rank ok hx hy; omega)]
theorem gV_rec (ok : FamOk fam) {x : Int} (hx : x ∈ fam) : gV fam Wt x = Wt x - sumL (gV fam Wt) (belF fam x) := by
  unfold gV
  conv => lhs; unfold gF
  rw [sumL_congr fun y hy => gF_eq ok _ ((belF fam y).length + 1) y (bel_lt ok hx hy).1 (by have := bel_rank ok hx hy; omega) (by omega)]
theorem sumL_abs {f : Int → Int} {B : Nat} : ∀ (l : List Int), (∀ y ∈ l, (f y).natAbs ≤ B) → (sumL f l).natAbs ≤ l.length * B := by
  intro l
  induction l with
  | nil => intro _; simp [sumL]
  | cons x l ih =>
    intro h
    have h1 := h x List.mem_cons_self
    have h2 := ih fun y hy => h y (List.mem_cons_of_mem _ hy)
    simp only [sumL, List.length_cons, Nat.add_mul]
    omega
theorem gV_bound (ok : FamOk fam) (hW : ∀ x ∈ fam, (Wt x).natAbs ≤ 1000) : ∀ (r : Nat) (x : Int), x ∈ fam → (belF fam x).length ≤ r → (gV fam Wt x).natAbs ≤ 1000 * 7 ^ r := by
  intro r
  induction r with
  | zero =>
    intro x hx h
    rw [gV_rec ok hx]
    have : belF fam x = [] := List.length_eq_zero_iff.mp (by omega)
    rw [this]
    have := hW x hx
    simp only [sumL]; omega
  | succ r ih =>
    intro x hx h
    rw [gV_rec ok hx]
    have h1 := hW x hx
    have h2 := sumL_abs (f := gV fam Wt) (B := 1000 * 7 ^ r) (belF fam x) fun y hy => ih y (bel_lt ok hx hy).1 (by have := bel_rank ok hx hy; omega)
    have h3 := bel_six ok x
    have h4 : (belF fam x).length * (1000 * 7 ^ r) ≤ 6 * (1000 * 7 ^ r) := Nat.mul_le_mul_right _ h3
    have h5 : 0 < 7 ^ r := Nat.pow_pos (by omega)
    have h6 : 1000 * 7 ^ (r + 1) = 7 * (1000 * 7 ^ r) := by rw [Nat.pow_succ]; omega
    omega
theorem gV_small (ok : FamOk fam) (hW : ∀ x ∈ fam, (Wt x).natAbs ≤ 1000) {x : Int} (hx : x ∈ fam) : (gV fam Wt x).natAbs < 2 ^ 63 := by
  have := gV_bound ok hW 6 x hx (bel_six ok x)
  omega
theorem sum_pick {f : Int → Int} {p : Int → Bool} {z : Int} (hp : p z = true) : ∀ (l : List Int), l.Nodup → z ∈ l → sumL f (l.filter p) = f z + sumL f (l.filter fun y => y != z && p y) := by
  intro l
  induction l with
  | nil => intro _ h; cases h
  | cons y l ih =>
    intro hn hz
    obtain ⟨h1, h2⟩ := List.nodup_cons.mp hn
    by_cases q : y = z
    · subst q
      have e : l.filter (fun x => x != y && p x) = l.filter p := List.filter_congr fun x hx => by
        have : x ≠ y := fun q => h1 (q ▸ hx)
        simp [this]
      rw [List.filter_cons, if_pos hp, List.filter_cons, if_neg (by simp), e]; rfl
    · have hz' : z ∈ l := (List.mem_cons.mp hz).resolve_left (Ne.symm q)
      have := ih h2 hz'
      rw [List.filter_cons, List.filter_cons]
      by_cases r : p y = true
      · rw [if_pos r, if_pos (by simp [r, q])]; simp only [sumL]; omega
      · rw [if_neg r, if_neg (by simp [r])]; exact this
theorem W_sum (ok : FamOk fam) {z : Int} (hz : z ∈ fam) : Wt z = sumL (gV fam Wt) (fam.filter fun y => An z y == y) := by
  have h1 := gV_rec (Wt := Wt) ok hz
  have h2 := sum_pick (f := gV fam Wt) (p := fun y => An z y == y) (z := z) (by simpa using an_idem (ok.pos z hz)) fam ok.nd hz
  have : sumL (gV fam Wt) (belF fam z) = sumL (gV fam Wt) (fam.filter fun y => y != z && An z y == y) := rfl
  omega
end
noncomputable def X (fam : List Int) (k : Nat) : Int := fam[k]?.getD 0
theorem X_lt {fam : List Int} {k : Nat} (h : k < fam.length) : X fam k = fam[k] := by unfold X; rw [List.getElem?_eq_getElem h]; rfl
theorem X_mem {fam : List Int} {k : Nat} (h : k < fam.length) : X fam k ∈ fam := by rw [X_lt h]; exact List.getElem_mem h
theorem X_map (fam : List Int) : (List.range fam.length).map (X fam) = fam := by
  refine List.ext_getElem (by simp) fun i h1 h2 => ?_
  rw [List.getElem_map, List.getElem_range, X_lt h2]
theorem sum_range {fam : List Int} {f : Int → Int} {p : Int → Bool} : sumL (fun k => f (X fam k)) ((List.range fam.length).filter fun k => p (X fam k)) = sumL f (fam.filter p) := by
  have key : ∀ l : List Nat, sumL (fun k => f (X fam k)) (l.filter fun k => p (X fam k)) = sumL f ((l.map (X fam)).filter p) := by
    intro l
    induction l with
    | nil => rfl
    | cons x l ih =>
      rw [List.filter_cons, List.map_cons, List.filter_cons]
      by_cases h : p (X fam x) = true
      · rw [if_pos h, if_pos h]; simp only [sumL, ih]
      · rw [if_neg h, if_neg h]; exact ih
  rw [key, X_map]
noncomputable def rowF (fam : List Int) (Wt : Int → Int) (x : Int) : List Int := fam.map fun y => Wt (An x y)
theorem det_fam {fam : List Int} (ok : FamOk fam) (Wt : Nat → Int → Int) :
    prodW fam.length (((List.range fam.length).map fun i => rowF fam (Wt i) (X fam i)).map fun row j => (row[j]?).getD 0) delta0 (List.replicate fam.length true) = prodL ((List.range fam.length).map fun i => gV fam (Wt i) (X fam i)) := by
  rw [List.map_map]
  refine det_eq (fun k i => An (X fam i) (X fam k) == X fam k) (X fam) (fun i hi => by simpa using an_idem (ok.pos _ (X_mem hi))) (fun k i hk hi hne h => ?_) _ (fun i k => gV fam (Wt i) (X fam k)) (fun i hi j hj => ?_)
  · have h1 : An (X fam i) (X fam k) = X fam k := by simpa using h
    have h2 := an_le (ok.pos _ (X_mem hi)) (ok.pos _ (X_mem hk))
    rw [h1] at h2
    have h3 : X fam k ≠ X fam i := fun q => hne (by
      rw [X_lt hk, X_lt hi] at q
      exact (List.getElem_inj ok.nd).mp q)
    omega
  · have hz : An (X fam i) (X fam j) ∈ fam := ok.cl _ (X_mem hi) _ (X_mem hj)
    show ((rowF fam (Wt i) (X fam i))[j]?).getD 0 = _
    have e1 : ((rowF fam (Wt i) (X fam i))[j]?).getD 0 = Wt i (An (X fam i) (X fam j)) := by
      unfold rowF
      rw [List.getElem?_map, List.getElem?_eq_getElem hj, X_lt hj]; rfl
    rw [e1, W_sum (Wt := Wt i) ok hz, sum_range (fam := fam) (f := gV fam (Wt i)) (p := fun y => An (X fam i) y == y && An (X fam j) y == y)]
    congr 1
    refine List.filter_congr fun y hy => ?_
    have px := ok.pos _ (X_mem hi)
    have pz := ok.pos _ (X_mem hj)
    have py := ok.pos y hy
    have as1 := an_assoc px pz py
    rw [Bool.eq_iff_iff]
    simp only [Bool.and_eq_true, beq_iff_eq]
    constructor
    · intro h
      rw [h] at as1
      constructor
      · have : An (X fam i) (An (X fam i) (An (X fam j) y)) = An (X fam i) (An (X fam j) y) := by
          rw [← an_assoc px px (an_nonneg pz py), an_idem px]
        rw [← as1] at this; exact this
      · have as2 := an_assoc pz px py
        rw [an_comm (X fam j) (X fam i), h] at as2
        have : An (X fam j) (An (X fam j) (An (X fam i) y)) = An (X fam j) (An (X fam i) y) := by
          rw [← an_assoc pz pz (an_nonneg px py), an_idem pz]
        rw [← as2] at this; exact this
    · rintro ⟨h1, h2⟩
      rw [as1, h2, h1]
theorem foldl_sub (l : List Int) (f : Int → Int) : ∀ a : Int, (l.map f).foldl (· - ·) a = a - sumL f l := by
  induction l with
  | nil => intro a; simp [sumL]
  | cons x l ih => intro a; simp only [List.map_cons, List.foldl_cons, ih, sumL]; omega
theorem foldl_mul (l : List Int) : ∀ a : Int, l.foldl (· * ·) a = prodL (a :: l) := by
  induction l with
  | nil => intro a; simp [prodL]
  | cons x l ih => intro a; simp only [List.foldl_cons, ih, prodL, Int.mul_assoc]
end Mine
end

section
open PySem PySem.W PyProof.Rows
set_option autoImplicit false
set_option linter.unusedVariables false
set_option linter.unusedSimpArgs false
namespace Mine
noncomputable def wf (dr : List Int) (n i k : Nat) : Int := (dr[(i * n + k) % dr.length]?).getD 0
noncomputable def WtF (dr fam : List Int) (i : Nat) (x : Int) : Int := wf dr fam.length i (fam.idxOf x)
structure LL (fi dI b oi ro sh n : Nat) (lo : Lo) : Prop where
  family : lo "family" = some (.ref fi)
  size : lo "size" = some (.int n)
  drawn : lo "drawn" = some (.ref dI)
  below : lo "below" = some (.ref b)
  order : lo "order" = some (.ref oi)
  rows : lo "rows" = some (.ref ro)
  shares : lo "shares" = some (.ref sh)
noncomputable abbrev names7 : List Str := ["family", "size", "drawn", "below", "order", "rows", "shares"]
theorem LL.of {fi dI b oi ro sh n : Nat} {lo lo' : Lo} (h : LL fi dI b oi ro sh n lo) (e : ∀ y ∈ names7, lo' y = lo y) : LL fi dI b oi ro sh n lo' :=
  ⟨(e _ (by decide)).trans h.family, (e _ (by decide)).trans h.size, (e _ (by decide)).trans h.drawn, (e _ (by decide)).trans h.below, (e _ (by decide)).trans h.order, (e _ (by decide)).trans h.rows, (e _ (by decide)).trans h.shares⟩
theorem LL.put {fi dI b oi ro sh n : Nat} {lo : Lo} (h : LL fi dI b oi ro sh n lo) {x : Str} {v : AVal} (hx : ∀ y ∈ names7, y ≠ x) : LL fi dI b oi ro sh n (Mine.put lo x v) := h.of fun y hy => put_other (hx y hy)
theorem storA_new {V : Type} {l : List Int} {f : Int → V} {x : Int} (h : x ∉ l) : storA (l.map fun k => (k, f k)) x (f x) = (l ++ [x]).map fun k => (k, f k) := by
  unfold storA
  rw [if_neg fun q => h (hasK_map.mp q)]; simp
theorem not_take {l : List Int} (hn : l.Nodup) {j : Nat} (hj : j < l.length) : l[j] ∉ l.take j := fun q => by
  have h1 := hn
  rw [← List.take_append_drop j l] at h1
  exact (List.nodup_append.mp h1).2.2 _ q _ (List.mem_drop_iff_getElem.mpr ⟨0, by omega, by simp⟩) rfl
section
variable {fam dr : List Int} {fi dI b oi ro sh : Nat}
theorem worth_run (ok : FamOk fam) (hdr : 0 < dr.length) (hdr2 : dr.length ≤ 100) {i : Nat} (hi : i < fam.length) {lo : Lo} {H : List AObj} {w : Nat} (L : LL fi dI b oi ro sh fam.length lo) (li : lo "i" = some (.int i)) (lw : lo "worth" = some (.ref w)) (hw : H[w]? = some (.dict 0 []))
    (hf : H[fi]? = some (.list (fam.map .int))) (hd : H[dI]? = some (.list (dr.map .int))) :
    Wp (forL "k" 100 (fnc rangeD (ac (getV "size") a0)) dWorth) ⟨lo, H⟩ fun f σ' => f = .next ∧ (∀ y : Str, y ≠ "k" → σ'.lo y = lo y) ∧ Gro w H σ'.H ∧ ∃ ep, σ'.H[w]? = some (.dict ep (fam.map fun x => (x, .int (WtF dr fam i x)))) := by
  have h6 := ok.six
  have hr : (H ++ [AObj.range 0 (fam.length : Int) 1])[H.length]? = some (.range 0 (fam.length : Int) 1) := get_new
  have hw1 := get_app (l := [AObj.range 0 (fam.length : Int) 1]) hw
  have g1 := Gro.app w H [AObj.range 0 (fam.length : Int) 1]
  have hru := range_up ⟨fam.length, by omega⟩
  refine wp_forL (ev_range L.size) (mk_range (n := fam.length) hr hru) ?_
  generalize H ++ [AObj.range 0 (fam.length : Int) 1] = H1 at hr hw1 g1
  have nf : fi ≠ w := ne_obj hw hf (ne_tag (Nat.ne_of_beq_eq_false rfl))
  have nd : dI ≠ w := ne_obj hw hd (ne_tag (Nat.ne_of_beq_eq_false rfl))
  refine (wp_loop (fun j σ => (∀ y : Str, y ≠ "k" → σ.lo y = lo y) ∧ Gro w H σ.H ∧ ∃ ep, σ.H[w]? = some (.dict ep ((fam.take j).map fun x => (x, .int (WtF dr fam i x))))) fam.length ?_ ?_ fam.length 0 100 _ (by omega) (by omega) ?_).mono ?_
  · rintro j ⟨lo2, H2⟩ hj ⟨q1, q2, ep, q3⟩
    dsimp only at q1 q2 q3
    refine ⟨.int (0 + (j : Int) * 1), by unfold nxRange; rw [if_pos hj], ?_⟩
    have hf2 := q2.at hf nf
    have hd2 := q2.at hd nd
    refine wp_setVb ?_
    have Lk : LL fi dI b oi ro sh fam.length (put lo2 "k" (.int (0 + (j : Int) * 1))) := L.of fun y hy => (put_other (by revert y; decide)).trans (q1 y (by revert y; decide))
    have lk : put lo2 "k" (.int (0 + (j : Int) * 1)) "k" = some (.int j) := by rw [put_same]; congr 2; omega
    have li2 : put lo2 "k" (.int (0 + (j : Int) * 1)) "i" = some (.int i) := (put_other (by decide)).trans ((q1 _ (by decide)).trans li)
    have lw2 : put lo2 "k" (.int (0 + (j : Int) * 1)) "worth" = some (.ref w) := (put_other (by decide)).trans ((q1 _ (by decide)).trans lw)
    have lall : ∀ y : Str, y ≠ "k" → put lo2 "k" (.int (0 + (j : Int) * 1)) y = lo y := fun y hy => (put_other hy).trans (q1 y hy)
    generalize put lo2 "k" (.int (0 + (j : Int) * 1)) = lo3 at Lk lk li2 lw2 lall
    have hmod : (i * fam.length + j) % dr.length < dr.length := Nat.mod_lt _ hdr
    have em : fMod ((i : Int) * fam.length + j) ((dr.map AVal.int).length : Nat) = some (((i * fam.length + j) % dr.length : Nat) : Int) := by
      unfold fMod
      rw [List.length_map, if_neg (by omega), Int.ofNat_fmod]; simp
    have emul : fMul (i : Int) (fam.length : Int) = some ((i : Int) * fam.length) := by unfold fMul; rw [if_pos (by omega)]
    have el : (dr.map AVal.int)[((((i * fam.length + j) % dr.length : Nat) : Int)).toNat]? = some (.int (wf dr fam.length i j)) := by
      rw [Int.toNat_natCast, List.getElem?_map]
      unfold wf
      rw [List.getElem?_eq_getElem hmod]; rfl
    have ef : (fam.map AVal.int)[(j : Int).toNat]? = some (.int fam[j]) := by rw [Int.toNat_natCast, List.getElem?_map, List.getElem?_eq_getElem hj]; rfl
    have hl1 : (dr.map AVal.int).length ≤ 1000 := by simp; omega
    have hl2 : ((fam.take j).map fun x => (x, AVal.int (WtF dr fam i x))).length ≤ 1000 := by rw [List.length_map, List.length_take]; omega
    unfold dWorth
    have e1 : bin (intsA fMul) (getV "i") (getV "size") ⟨lo3, H2⟩ = some (.int ((i : Int) * fam.length), ⟨lo3, H2⟩) := (ev_bin (ev_getN li2) (ev_getN Lk.size)).trans (ev_ints emul)
    have e2 : bin (intsA fAdd) (bin (intsA fMul) (getV "i") (getV "size")) (getV "k") ⟨lo3, H2⟩ = some (.int ((i : Int) * fam.length + j), ⟨lo3, H2⟩) := (ev_bin e1 (ev_getN lk)).trans (ev_ints rfl)
    have e3 : fnc lenA (ac (getV "drawn") a0) ⟨lo3, H2⟩ = some (.int ((dr.map AVal.int).length : Nat), ⟨lo3, H2⟩) := (ev_fnc (ev_ac (ev_getN Lk.drawn) ev_a0)).trans (ev_lenL (σ := ⟨lo3, H2⟩) hd2 hl1)
    have e4 := (ev_bin (f := intsA fMod) e2 e3).trans (ev_ints em)
    have e5 := (ev_bin (f := subA) (ev_getN (H := H2) Lk.drawn) e4).trans (ev_subL (σ := ⟨lo3, H2⟩) hd2 (show (0 : Int) ≤ (((i * fam.length + j) % dr.length : Nat) : Int) by omega) (by omega) el)
    have e6 := (ev_bin (f := subA) (ev_getN (H := H2) Lk.family) (ev_getN lk)).trans (ev_subL (σ := ⟨lo3, H2⟩) hf2 (show (0 : Int) ≤ (j : Int) by omega) (by omega) ef)
    refine wp_l (ev_setI e5 (ev_getN lw2) e6 (ev_setA (σ := ⟨lo3, H2⟩) q3 hl2)) ?_
    refine ⟨.inl rfl, lall, q2.trans (.set ..), (if hasK ((fam.take j).map fun x => (x, AVal.int (WtF dr fam i x))) fam[j] then ep else ep + 1), ?_⟩
    rw [set_get q3, take_snoc hj, ← storA_new (f := fun x => AVal.int (WtF dr fam i x)) (not_take ok.nd hj)]
    have : WtF dr fam i fam[j] = wf dr fam.length i j := by unfold WtF; rw [ok.nd.idxOf_getElem j hj]
    rw [this]
  · rintro ⟨lo2, H2⟩ _
    unfold nxRange; rw [if_neg (by omega)]
  · exact ⟨fun _ _ => rfl, g1, 0, by simpa using hw1⟩
  · rintro f ⟨lo2, H2⟩ ⟨rfl, q1, q2, q3⟩
    rw [List.take_length] at q3
    exact ⟨rfl, q1, q2, q3⟩
end
end Mine
end

section
open PySem PySem.W PyProof.Rows
set_option autoImplicit false
set_option linter.unusedVariables false
set_option linter.unusedSimpArgs false
namespace Mine
noncomputable def onI (g : Int → Option Int) : AVal → Option AVal
  | .int y => (g y).map .int
  | _ => none
theorem fm_onI (g : Int → Option Int) (l : List Int) : (l.map AVal.int).filterMap (onI g) = (l.filterMap g).map .int := by
  induction l with
  | nil => rfl
  | cons y ys ih =>
    have e : onI g (.int y) = (g y).map .int := rfl
    rw [List.map_cons, List.filterMap_cons, List.filterMap_cons, e]
    cases g y with
    | none => exact ih
    | some z => simp only [Option.map_some, List.map_cons, ih]
theorem fm_onI1 (g : Int → Int) (l : List Int) : (l.map AVal.int).filterMap (onI fun y => some (g y)) = (l.map g).map .int := by
  rw [fm_onI, List.filterMap_eq_map']
section
variable {fam : List Int} {fi dI b oi ro sh epb : Nat} {bl : Int → Nat} {dn : List Int} {Wt : Int → Int}
theorem share_run (ok : FamOk fam) (hd6 : dn.length ≤ 6) (hdn : dn.Nodup) (hsub : ∀ x ∈ dn, x ∈ fam) (hord : ∀ j (h : j < dn.length), ∀ y ∈ belF fam dn[j], y ∈ dn.take j) {lo : Lo} {H : List AObj} {w ew c : Nat} (L : LL fi dI b oi ro sh fam.length lo) (lw : lo "worth" = some (.ref w)) (lc : lo "share" = some (.ref c))
    (hw : H[w]? = some (.dict ew (fam.map fun x => (x, .int (Wt x))))) (hcw : c ≠ w) (hcb : c ≠ b) (hc : H[c]? = some (.dict 0 [])) (hb : H[b]? = some (.dict epb (fam.map fun x => (x, .ref (bl x))))) (hbl : ∀ x ∈ fam, H[bl x]? = some (.list ((belF fam x).map .int))) (ho : H[oi]? = some (.list (dn.map .int))) :
    Wp (forL "x" 100 (getV "order") dShare) ⟨lo, H⟩ fun f σ' => f = .next ∧ (∀ y : Str, y ≠ "x" → σ'.lo y = lo y) ∧ Gro c H σ'.H ∧ ∃ ep, σ'.H[c]? = some (.dict ep (dn.map fun x => (x, .int (gV fam Wt x)))) := by
  refine wp_forL (ev_getN L.order) (mk_list ho) ?_
  have no : oi ≠ c := ne_obj hc ho (ne_tag (Nat.ne_of_beq_eq_false rfl))
  refine (wp_loop (fun j σ => (∀ y : Str, y ≠ "x" → σ.lo y = lo y) ∧ Gro c H σ.H ∧ ∃ ep, σ.H[c]? = some (.dict ep ((dn.take j).map fun x => (x, .int (gV fam Wt x))))) dn.length ?_ ?_ dn.length 0 100 _ (by omega) (by omega) ?_).mono ?_
  · rintro j ⟨lo2, H2⟩ hj ⟨q1, q2, ep, q3⟩
    dsimp only at q1 q2 q3
    refine ⟨_, nx_list (q2.at ho no) hj, ?_⟩
    have hx : dn[j] ∈ fam := hsub _ (List.getElem_mem hj)
    have hoj := hord j hj
    have hnj := not_take hdn hj
    have htk := take_snoc hj
    generalize dn[j] = x at hx hoj hnj htk
    refine wp_setVb ?_
    have Lx : LL fi dI b oi ro sh fam.length (put lo2 "x" (.int x)) := L.of fun y hy => (put_other (by revert y; decide)).trans (q1 y (by revert y; decide))
    have lx : put lo2 "x" (.int x) "x" = some (.int x) := put_same
    have lw2 : put lo2 "x" (.int x) "worth" = some (.ref w) := (put_other (by decide)).trans ((q1 _ (by decide)).trans lw)
    have lc2 : put lo2 "x" (.int x) "share" = some (.ref c) := (put_other (by decide)).trans ((q1 _ (by decide)).trans lc)
    have lall : ∀ y : Str, y ≠ "x" → put lo2 "x" (.int x) y = lo y := fun y hy => (put_other hy).trans (q1 y hy)
    generalize put lo2 "x" (.int x) = lo3 at Lx lx lw2 lc2 lall
    have hb2 := q2.at hb (Ne.symm hcb)
    have hw2 := q2.at hw (Ne.symm hcw)
    have hbx := hbl x hx
    have hbx2 := q2.at hbx (ne_obj hc hbx (ne_tag (Nat.ne_of_beq_eq_false rfl)))
    have lkb : lookA (fam.map fun x => (x, AVal.ref (bl x))) x = some (.ref (bl x)) := by rw [lookA_map, if_pos hx]
    have lkw : lookA (fam.map fun x => (x, AVal.int (Wt x))) x = some (.int (Wt x)) := by rw [lookA_map, if_pos hx]
    have hb6 := bel_six ok x
    have hdi : bin subA (getV "below") (getV "x") ⟨lo3, H2⟩ = some (.ref (bl x), ⟨lo3, H2⟩) := by
      rw [ev_bin (ev_getV Lx.below) (ev_getV lx)]; exact ev_subD hb2 lkb
    have hcomp : dCompF ["share"] (bin subA (getV "below") (getV "x")) "y" (pure true) (bin subA (getV "share") (getV "y")) 100 ⟨lo3, H2⟩ = some (.ref H2.length, ⟨lo3, H2 ++ [.list (((belF fam x).map (gV fam Wt)).map .int)]⟩) := by
      rw [comp_run (onI fun y => some (gV fam Wt y)) hdi hbx2 (by simp; omega) (by simp; omega) (fun v hv G hG => by
        obtain ⟨y, hy, rfl⟩ := List.mem_map.mp hv
        have q1 : put (loF ["share"] lo3) "y" (.int y) "share" = some (.ref c) := by
          refine (put_other (by decide)).trans ?_
          unfold loF; rw [if_pos (by simp)]; exact lc2
        refine ⟨rfl, fun z hz => ?_⟩
        cases hz
        rw [ev_bin (ev_getV q1) (ev_getV (show put (loF ["share"] lo3) "y" (.int y) "y" = _ from put_same))]
        exact ev_subD (hG.at q3) (by rw [lookA_map, if_pos (hoj y hy)]))]
      rw [fm_onI1]
    have hnew : (H2 ++ [AObj.list (((belF fam x).map (gV fam Wt)).map .int)])[H2.length]? = some (.list (((belF fam x).map (gV fam Wt)).map .int)) := get_new
    have g3 := Gro.app c H2 [AObj.list (((belF fam x).map (gV fam Wt)).map .int)]
    have c3 := get_app (l := [AObj.list (((belF fam x).map (gV fam Wt)).map .int)]) q3
    have w3 := get_app (l := [AObj.list (((belF fam x).map (gV fam Wt)).map .int)]) hw2
    generalize H2 ++ [AObj.list (((belF fam x).map (gV fam Wt)).map .int)] = H3 at hcomp hnew g3 c3 w3
    obtain ⟨H4, e4, len4, k4⟩ := red_sub (a := Wt x) hnew (by simp; omega)
    have c4 : H4[c]? = _ := (k4 c (List.getElem?_eq_some_iff.mp c3).1).trans c3
    have eg : ((belF fam x).map (gV fam Wt)).foldl (· - ·) (Wt x) = gV fam Wt x := by rw [foldl_sub, gV_rec ok hx]
    rw [eg] at e4
    have hl4 : ((dn.take j).map fun x => (x, AVal.int (gV fam Wt x))).length ≤ 1000 := by rw [List.length_map, List.length_take]; omega
    have hwx : bin subA (getV "worth") (getV "x") ⟨lo3, H3⟩ = some (.int (Wt x), ⟨lo3, H3⟩) := by rw [ev_bin (ev_getV lw2) (ev_getV lx)]; exact ev_subD w3 lkw
    have hcall : callF (fRed 171 fSubF) (ac (pure (.stat (.ref 171))) (ac (dCompF ["share"] (bin subA (getV "below") (getV "x")) "y" (pure true) (bin subA (getV "share") (getV "y")) 100) (ac (bin subA (getV "worth") (getV "x")) a0))) ⟨lo3, H2⟩ = some (.int (gV fam Wt x), ⟨lo3, H4⟩) :=
      ev_callF (ev_ac ev_pure (ev_ac hcomp (ev_ac hwx ev_a0))) e4
    unfold dShare
    rw [wp_ev (ev_setI hcall (ev_getV lc2) (ev_getV lx) (ev_setA c4 hl4))]
    refine ⟨.inl rfl, lall, (q2.trans (g3.trans ⟨len4, fun i hi _ => k4 i hi⟩)).trans (.set ..), (if hasK ((dn.take j).map fun x => (x, AVal.int (gV fam Wt x))) x then ep else ep + 1), ?_⟩
    rw [set_get c4, htk, ← storA_new (f := fun x => AVal.int (gV fam Wt x)) hnj]
  · rintro ⟨lo2, H2⟩ ⟨q1, q2, _⟩
    exact nx_listE (q2.at ho no)
  · exact ⟨fun _ _ => rfl, .refl .., 0, by simpa using hc⟩
  · rintro f ⟨lo2, H2⟩ ⟨rfl, q1, q2, q3⟩
    rw [List.take_length] at q3
    exact ⟨rfl, q1, q2, q3⟩
end
end Mine
end

section
open PySem PySem.W PyProof.Rows
set_option autoImplicit false
set_option linter.unusedVariables false
set_option linter.unusedSimpArgs false
namespace Mine
structure RI (Hb H : List AObj) (fam dr : List Int) (rs : List Nat) (m : Nat) : Prop where
  over : Over Hb H
  ro : H[Hb.length]? = some (.list (rs.map .ref))
  sh : H[Hb.length + 1]? = some (.list (((List.range m).map fun j => gV fam (WtF dr fam j) (X fam j)).map .int))
  row : ∀ j (h : j < rs.length), H[rs[j]]? = some (.list ((rowF fam (WtF dr fam j) (X fam j)).map .int)) ∧ Hb.length + 2 ≤ rs[j]
section
variable {Hb H H' : List AObj} {fam dr : List Int} {rs : List Nat} {m : Nat}
theorem RI.over' (h : RI Hb H fam dr rs m) (o : Over H H') : RI Hb H' fam dr rs m :=
  ⟨h.over.trans o, o.at h.ro, o.at h.sh, fun j hj => ⟨o.at (h.row j hj).1, (h.row j hj).2⟩⟩
theorem RI.addRow (h : RI Hb H fam dr rs m) {r : Nat} (hr : H[r]? = some (.list ((rowF fam (WtF dr fam rs.length) (X fam rs.length)).map .int))) (hg : Hb.length + 2 ≤ r) : RI Hb (H.set Hb.length (.list (rs.map .ref ++ [.ref r]))) fam dr (rs ++ [r]) m := by
  refine ⟨h.over.set (Nat.le_refl _) _, by rw [set_get h.ro]; simp, set_ne h.sh (by omega), fun j hj => ?_⟩
  by_cases q : j < rs.length
  · rw [List.getElem_append_left q]
    obtain ⟨h1, h2⟩ := h.row j q
    exact ⟨set_ne h1 (by omega), h2⟩
  · have : j = rs.length := by simp at hj; omega
    subst this
    simp only [List.getElem_concat_length]
    exact ⟨set_ne hr (by omega), hg⟩
theorem RI.addSh (h : RI Hb H fam dr rs m) : RI Hb (H.set (Hb.length + 1) (.list (((List.range m).map fun j => gV fam (WtF dr fam j) (X fam j)).map .int ++ [.int (gV fam (WtF dr fam m) (X fam m))]))) fam dr rs (m + 1) :=
  ⟨h.over.set (by omega) _, set_ne h.ro (by omega), by rw [set_get h.sh, List.range_succ]; simp, fun j hj => ⟨set_ne (h.row j hj).1 (by have := (h.row j hj).2; omega), (h.row j hj).2⟩⟩
end
theorem over_new {H H2 : List AObj} {o : AObj} (g : Gro H.length (H ++ [o]) H2) : Over H H2 :=
  ⟨by have := g.len; simp at this; omega, fun i hi => by rw [g.keep i (by simp; omega) (by omega), List.getElem?_append_left hi]⟩
section
variable {Hb : List AObj} {fam dr : List Int} {fi dI b oi epb : Nat} {bl : Int → Nat} {dn : List Int}
theorem row_run (ok : FamOk fam) (hdr : 0 < dr.length) (hdr2 : dr.length ≤ 100) (hd6 : dn.length ≤ 6) (hdn : dn.Nodup) (hsub : ∀ x, x ∈ dn ↔ x ∈ fam) (hord : ∀ j (h : j < dn.length), ∀ y ∈ belF fam dn[j], y ∈ dn.take j)
    (hf : Hb[fi]? = some (.list (fam.map .int))) (hd : Hb[dI]? = some (.list (dr.map .int))) (hb : Hb[b]? = some (.dict epb (fam.map fun x => (x, .ref (bl x))))) (hbl : ∀ x ∈ fam, Hb[bl x]? = some (.list ((belF fam x).map .int))) (ho : Hb[oi]? = some (.list (dn.map .int)))
    {H : List AObj} {rs : List Nat} (hi : rs.length < fam.length) {lo : Lo} (L : LL fi dI b oi Hb.length (Hb.length + 1) fam.length lo) (li : lo "i" = some (.int rs.length)) (R : RI Hb H fam dr rs rs.length) :
    Wp dRow ⟨lo, H⟩ fun f σ' => f = .next ∧ LL fi dI b oi Hb.length (Hb.length + 1) fam.length σ'.lo ∧ ∃ rs', rs'.length = rs.length + 1 ∧ RI Hb σ'.H fam dr rs' rs'.length := by
  have h6 := ok.six
  unfold dRow
  refine wp_s (ev_asgN ev_newO) ?_
  have hw1 : (H ++ [AObj.dict 0 []])[H.length]? = some (.dict 0 []) := get_new
  have R1 := R.over' (.app H [.dict 0 []])
  have L1 : LL fi dI b oi Hb.length (Hb.length + 1) fam.length (put lo "worth" (.ref H.length)) := L.put (by decide)
  have li1 : put lo "worth" (.ref H.length) "i" = some (.int rs.length) := (put_other (by decide)).trans li
  have lw1 : put lo "worth" (.ref H.length) "worth" = some (.ref H.length) := put_same
  generalize put lo "worth" (.ref H.length) = lo1 at L1 li1 lw1
  refine wp_seq ?_
  refine (worth_run ok hdr hdr2 hi L1 li1 lw1 hw1 (R1.over.at hf) (R1.over.at hd)).mono ?_
  rintro f ⟨lo2, H2⟩ ⟨rfl, q1, g2, ew, w2⟩
  dsimp only at q1 g2 w2
  refine ⟨rfl, ?_⟩
  have o2 := over_new g2
  have R2 := R.over' o2
  have L2 := L1.of fun y hy => q1 y (by revert y; decide)
  have li2 := (q1 _ (by decide)).trans li1
  have lw2 := (q1 _ (by decide)).trans lw1
  clear q1 g2 R1 L1 li1 lw1 hw1
  have hf2 := R2.over.at hf
  have fg : ∀ (z : Int) (G : List AObj), z ∈ fam → G[H.length]? = some (.dict ew (fam.map fun x => (x, .int (WtF dr fam rs.length x)))) → fGetF [.ref H.length, .int z] G = some (.int (WtF dr fam rs.length z), G) := fun z G hz hG => by
    have : WF (fGetF [.ref H.length, .int z]) G fun v H' => v = .int (WtF dr fam rs.length z) ∧ H' = G := by
      unfold fGetF
      refine wf_run (l := [("a", .ref H.length), ("b", .int z)]) rfl ?_
      unfold dGet
      have lk : lookA (fam.map fun x => (x, AVal.int (WtF dr fam rs.length x))) z = some (.int (WtF dr fam rs.length z)) := by rw [lookA_map, if_pos hz]
      refine wp_l (ev_rets ((ev_bin (ev_getN (lo2a (by decide))) (ev_getN lo2b)).trans (ev_subD (σ := ⟨_, G⟩) hG lk))) ⟨_, rfl, rfl, rfl⟩
    obtain ⟨v, H', e, rfl, rfl⟩ := this
    exact e
  have hcomp : dCompF ["family", "i", "worth"] (getV "family") "y" (pure true) (callF fGetF (ac (getV "worth") (ac (callF fAndF (ac (bin subA (getV "family") (getV "i")) (ac (getV "y") a0))) a0))) 100 ⟨lo2, H2⟩ = some (.ref H2.length, ⟨lo2, H2 ++ [.list ((rowF fam (WtF dr fam rs.length) (X fam rs.length)).map .int)]⟩) := by
    rw [comp_run (onI fun y => some (WtF dr fam rs.length (An (X fam rs.length) y))) (ev_getV L2.family) hf2 (by simp; omega) (by simp; omega) (fun v hv G hG => by
      obtain ⟨y, hy, rfl⟩ := List.mem_map.mp hv
      have a1 : put (loF ["family", "i", "worth"] lo2) "y" (.int y) "family" = some (.ref fi) := by
        refine (put_other (by decide)).trans ?_
        unfold loF; rw [if_pos (by decide)]; exact L2.family
      have a2 : put (loF ["family", "i", "worth"] lo2) "y" (.int y) "i" = some (.int rs.length) := by
        refine (put_other (by decide)).trans ?_
        unfold loF; rw [if_pos (by decide)]; exact li2
      have a3 : put (loF ["family", "i", "worth"] lo2) "y" (.int y) "worth" = some (.ref H.length) := by
        refine (put_other (by decide)).trans ?_
        unfold loF; rw [if_pos (by decide)]; exact lw2
      have a4 : put (loF ["family", "i", "worth"] lo2) "y" (.int y) "y" = some (.int y) := put_same
      refine ⟨rfl, fun z hz => ?_⟩
      cases hz
      have ef : (fam.map AVal.int)[((rs.length : Nat) : Int).toNat]? = some (.int (X fam rs.length)) := by rw [Int.toNat_natCast, List.getElem?_map, List.getElem?_eq_getElem hi, X_lt hi]; rfl
      have hfi : bin subA (getV "family") (getV "i") ⟨put (loF ["family", "i", "worth"] lo2) "y" (.int y), G⟩ = some (.int (X fam rs.length), ⟨put (loF ["family", "i", "worth"] lo2) "y" (.int y), G⟩) := by
        rw [ev_bin (ev_getV a1) (ev_getV a2)]
        exact ev_subL (hG.at hf2) (by omega) (by omega) ef
      exact ev_callF (ev_ac (ev_getV a3) (ev_ac (ev_callF (ev_ac hfi (ev_ac (ev_getV a4) ev_a0)) run_and) ev_a0)) (fg _ _ (ok.cl _ (X_mem hi) _ hy) (hG.at w2)))]
    rw [fm_onI1]; rfl
  have hnew : (H2 ++ [AObj.list ((rowF fam (WtF dr fam rs.length) (X fam rs.length)).map .int)])[H2.length]? = some (.list ((rowF fam (WtF dr fam rs.length) (X fam rs.length)).map .int)) := get_new
  have R3 := R2.over' (.app H2 [.list ((rowF fam (WtF dr fam rs.length) (X fam rs.length)).map .int)])
  have w3 := get_app (l := [AObj.list ((rowF fam (WtF dr fam rs.length) (X fam rs.length)).map .int)]) w2
  generalize H2 ++ [AObj.list ((rowF fam (WtF dr fam rs.length) (X fam rs.length)).map .int)] = H3 at hcomp hnew R3 w3
  have hrl : (rs.map AVal.ref).length ≤ 1000 := by simp; omega
  have hH2 : Hb.length + 2 ≤ H2.length := by
    have := (List.getElem?_eq_some_iff.mp R2.sh).1
    omega
  refine wp_seq ?_
  rw [wp_ev (ev_exprs (v := .none) (σ₁ := ⟨lo2, H3.set Hb.length (.list (rs.map .ref ++ [.ref H2.length]))⟩) (by
    rw [ev_meth (ev_getV L2.rows) R2.ro rfl (ev_ac hcomp ev_a0)]
    exact ev_append R3.ro hrl))]
  refine ⟨rfl, ?_⟩
  have R4 := R3.addRow hnew hH2
  have w4 := set_k (x := .list (rs.map .ref ++ [.ref H2.length])) w3 R3.ro (ne_tag (Nat.ne_of_beq_eq_false rfl))
  generalize H3.set Hb.length _ = H4 at R4 w4
  refine wp_s (ev_asgN ev_newO) ?_
  have hc5 : (H4 ++ [AObj.dict 0 []])[H4.length]? = some (.dict 0 []) := get_new
  have R5 := R4.over' (.app H4 [.dict 0 []])
  have w5 := get_app (l := [AObj.dict 0 []]) w4
  have L5 : LL fi dI b oi Hb.length (Hb.length + 1) fam.length (put lo2 "share" (.ref H4.length)) := L2.put (by decide)
  have li5 : put lo2 "share" (.ref H4.length) "i" = some (.int rs.length) := (put_other (by decide)).trans li2
  have lw5 : put lo2 "share" (.ref H4.length) "worth" = some (.ref H.length) := (put_other (by decide)).trans lw2
  have lc5 : put lo2 "share" (.ref H4.length) "share" = some (.ref H4.length) := put_same
  generalize put lo2 "share" (.ref H4.length) = lo5 at L5 li5 lw5 lc5
  have hwl := (List.getElem?_eq_some_iff.mp w4).1
  have hbl4 := (List.getElem?_eq_some_iff.mp (R4.over.at hb)).1
  refine wp_seq ?_
  refine (share_run ok hd6 hdn (fun x hx => (hsub x).mp hx) hord L5 lw5 lc5 w5 (by omega) (by omega) hc5 (R5.over.at hb) (fun x hx => R5.over.at (hbl x hx)) (R5.over.at ho)).mono ?_
  rintro f ⟨lo6, H6⟩ ⟨rfl, q6, g6, ec, c6⟩
  dsimp only at q6 g6 c6
  refine ⟨rfl, ?_⟩
  have R6 := R4.over' (over_new g6)
  have L6 := L5.of fun y hy => q6 y (by revert y; decide)
  have li6 := (q6 _ (by decide)).trans li5
  have lc6 := (q6 _ (by decide)).trans lc5
  have ef : (fam.map AVal.int)[((rs.length : Nat) : Int).toNat]? = some (.int (X fam rs.length)) := by rw [Int.toNat_natCast, List.getElem?_map, List.getElem?_eq_getElem hi, X_lt hi]; rfl
  have hfi : bin subA (getV "family") (getV "i") ⟨lo6, H6⟩ = some (.int (X fam rs.length), ⟨lo6, H6⟩) := by
    rw [ev_bin (ev_getV L6.family) (ev_getV li6)]
    exact ev_subL (R6.over.at hf) (by omega) (by omega) ef
  have hsv : bin subA (getV "share") (bin subA (getV "family") (getV "i")) ⟨lo6, H6⟩ = some (.int (gV fam (WtF dr fam rs.length) (X fam rs.length)), ⟨lo6, H6⟩) := by
    rw [ev_bin (ev_getV lc6) hfi]
    exact ev_subD c6 (by rw [lookA_map, if_pos ((hsub _).mpr (X_mem hi))])
  rw [wp_ev (ev_exprs (v := .none) (σ₁ := ⟨lo6, H6.set (Hb.length + 1) (.list (((List.range rs.length).map fun j => gV fam (WtF dr fam j) (X fam j)).map .int ++ [.int (gV fam (WtF dr fam rs.length) (X fam rs.length))]))⟩) (by
    rw [ev_meth (ev_getV L6.shares) R6.sh rfl (ev_ac hsv ev_a0)]
    exact ev_append R6.sh (by simp; omega)))]
  refine ⟨rfl, L6, rs ++ [H2.length], by simp, ?_⟩
  have := R6.addSh
  rw [List.length_append]
  exact this
end
end Mine
end

section
open PySem PySem.W PyProof.Rows
set_option autoImplicit false
set_option linter.unusedVariables false
set_option linter.unusedSimpArgs false
namespace Mine
theorem Wt_small {fam dr : List Int} (hb : ∀ v ∈ dr, v.natAbs ≤ 1000) (i : Nat) (x : Int) : (WtF dr fam i x).natAbs ≤ 1000 := by
  unfold WtF wf
  cases h : dr[(i * fam.length + fam.idxOf x) % dr.length]? with
  | none => simp
  | some v => exact hb v (List.mem_of_getElem? h)
theorem lk_pow (n : Nat) (h : n ≤ 6) : fPow 2 (n : Int) = some ((2 : Int) ^ n) := by
  unfold fPow
  rw [if_pos ⟨by omega, by omega, by decide⟩, Int.toNat_natCast]
section
variable {Hb : List AObj} {fam dr : List Int} {fi dI b oi epb : Nat} {bl : Int → Nat} {dn : List Int}
theorem end_run (ok : FamOk fam) (hne : fam ≠ []) (hdb : ∀ v ∈ dr, v.natAbs ≤ 1000) {H : List AObj} {rs : List Nat} (hrs : rs.length = fam.length) {lo : Lo} (L : LL fi dI b oi Hb.length (Hb.length + 1) fam.length lo) (R : RI Hb H fam dr rs fam.length) : Wp dEnd ⟨lo, H⟩ fun f σ' => f = .ret (.bool true) := by
  have h6 := ok.six
  have hdict : (do let d ← newO (.dict 0 []); let k ← I 0; let v ← I 1; setA1 d k v; pure d : M AVal) ⟨lo, H⟩ = some (.ref H.length, ⟨lo, H ++ [.dict 1 (IV [(0, 1)])]⟩) := by
    refine wp_eq ?_
    have e1 : (H ++ [AObj.dict 0 []])[H.length]? = some (.dict 0 []) := get_new
    simp only [ifs, cmp, bin, asg, rets, exprs, ac, a0, fnc, meth, setI, forL, Mine.at', setAt, augAt, callM, callF, astar, named, isNot, nil', lst, I, isNoneA, cmpI, intsA, wp_bind, wp_pure, wp_getV, wp_getO, wp_setV, wp_setO, wp_newO, wp_lift, wp_ite, wp_fail, wp_onH, loB, put, str_eq, instD, dictD, setSlD, setSl, getSl, getD, putD, methD, lookS, storS, hOk, asList, asTuple, asDict, asSet, asDictR, chkT, kindT, Option.some.injEq, exists_eq_left', exists_eq_left, if_true, if_false, reduceIte, String.reduceEq, Option.join_some, true_and, and_true, List.getElem?_cons_zero, List.getElem?_cons_succ, reduceCtorEq, false_and, exists_false, Bool.false_eq_true, Bool.not_true, Bool.not_false, beq_self_eq_true, AVal.ref.injEq, AVal.int.injEq, setA1, e1, List.length_nil, Nat.zero_le]
    rw [show hasK ([] : List (Int × AVal)) 0 = false from rfl]
    simp [storA, hasK, IV]
  have R1 := R.over' (.app H [.dict 1 (IV [(0, 1)])])
  have hd0 : (H ++ [AObj.dict 1 (IV [(0, 1)])])[H.length]? = some (.dict 1 (IV [(0, 1)])) := get_new
  generalize H ++ [AObj.dict 1 (IV [(0, 1)])] = H1 at hdict R1 hd0
  let rows := (List.range fam.length).map fun i => rowF fam (WtF dr fam i) (X fam i)
  have hrl : rows.length = fam.length := by simp [rows]
  obtain ⟨H2, d, ep, e2, hd2, l2, k2⟩ := red_wedge (n := fam.length) (rs := rs) (rows := rows) h6 (by rw [hrs, hrl]) (by omega) R1.ro hd0 (fun i hi => by
    rw [hrl] at hi
    have hi' : i < rs.length := by omega
    refine ⟨rs[i], rowF fam (WtF dr fam i) (X fam i), List.getElem?_eq_getElem hi', by simp [rows, hi], (R1.row i hi').1, by simp [rowF], fun x hx => ?_⟩
    unfold rowF at hx
    obtain ⟨y, _, rfl⟩ := List.mem_map.mp hx
    have := Wt_small (fam := fam) hdb i (An (X fam i) y)
    omega)
  have hfull := rowsW_full (n := fam.length) (rows := rows) hrl
  rw [det_fam ok (fun i => WtF dr fam i)] at hfull
  have hcall : callF (fRed 190 fWedF) (ac (pure (.stat (.ref 190))) (ac (getV "rows") (ac (do let d ← newO (.dict 0 []); let k ← I 0; let v ← I 1; setA1 d k v; pure d) a0))) ⟨lo, H⟩ = some (.ref d, ⟨lo, H2⟩) :=
    ev_callF (ev_ac ev_pure (ev_ac (ev_getV L.rows) (ev_ac hdict ev_a0))) e2
  have hpow : bin (intsA fSub) (bin (intsA fPow) (I 2) (getV "size")) (I 1) ⟨lo, H2⟩ = some (.int ((2 : Int) ^ fam.length - 1), ⟨lo, H2⟩) := by
    have hp : bin (intsA fPow) (I 2) (getV "size") ⟨lo, H2⟩ = some (.int ((2 : Int) ^ fam.length), ⟨lo, H2⟩) := by
      rw [ev_bin ev_I (ev_getV L.size)]
      exact ev_ints (lk_pow _ h6)
    rw [ev_bin hp ev_I]
    exact ev_ints rfl
  have hl : bin subA (callF (fRed 190 fWedF) (ac (pure (.stat (.ref 190))) (ac (getV "rows") (ac (do let d ← newO (.dict 0 []); let k ← I 0; let v ← I 1; setA1 d k v; pure d) a0)))) (bin (intsA fSub) (bin (intsA fPow) (I 2) (getV "size")) (I 1)) ⟨lo, H⟩ =
      some (.int (prodL ((List.range fam.length).map fun i => gV fam (WtF dr fam i) (X fam i))), ⟨lo, H2⟩) := by
    rw [ev_bin hcall hpow]
    exact ev_subD hd2 (by rw [look_IV, hfull]; rfl)
  have hs2 := (k2 (Hb.length + 1) (List.getElem?_eq_some_iff.mp R1.sh).1).trans R1.sh
  obtain ⟨m, hm⟩ : ∃ m, fam.length = m + 1 := ⟨fam.length - 1, by have := List.length_pos_iff.mpr hne; omega⟩
  have hsplit : ((List.range fam.length).map fun j => gV fam (WtF dr fam j) (X fam j)) = gV fam (WtF dr fam 0) (X fam 0) :: ((List.range m).map fun j => gV fam (WtF dr fam (j + 1)) (X fam (j + 1))) := by
    rw [hm, List.range_succ_eq_map, List.map_cons, List.map_map]; rfl
  rw [hsplit] at hs2 hl
  obtain ⟨H3, e3⟩ := red_mul hs2 (by simp; omega) (fun x hx => by
    obtain ⟨j, hj, rfl⟩ := List.mem_map.mp hx
    have := List.mem_range.mp hj
    exact gV_small ok (fun y _ => Wt_small hdb (j + 1) y) (X_mem (by omega)))
  rw [foldl_mul] at e3
  have hr : callF (fRed 164 fMulF) (ac (pure (.stat (.ref 164))) (ac (getV "shares") a0)) ⟨lo, H2⟩ = some (.int (prodL (gV fam (WtF dr fam 0) (X fam 0) :: ((List.range m).map fun j => gV fam (WtF dr fam (j + 1)) (X fam (j + 1))))), ⟨lo, H3⟩) :=
    ev_callF (ev_ac ev_pure (ev_ac (ev_getV L.shares) ev_a0)) e3
  unfold dEnd
  refine ⟨.ret (.bool true), ⟨lo, H3⟩, ?_, rfl⟩
  refine ev_rets (v := .bool true) (σ₁ := ⟨lo, H3⟩) ?_
  unfold cmpB
  rw [ev_bind hl, ev_bind hr]
  show some (AVal.bool (_ == _), _) = _
  rw [beq_self_eq_true]
theorem tail_run (ok : FamOk fam) (hne : fam ≠ []) (hdb : ∀ v ∈ dr, v.natAbs ≤ 1000) (hdr : 0 < dr.length) (hdr2 : dr.length ≤ 100) (hd6 : dn.length ≤ 6) (hdn : dn.Nodup) (hsub : ∀ x, x ∈ dn ↔ x ∈ fam) (hord : ∀ j (h : j < dn.length), ∀ y ∈ belF fam dn[j], y ∈ dn.take j)
    (hf : Hb[fi]? = some (.list (fam.map .int))) (hd : Hb[dI]? = some (.list (dr.map .int))) (hb : Hb[b]? = some (.dict epb (fam.map fun x => (x, .ref (bl x))))) (hbl : ∀ x ∈ fam, Hb[bl x]? = some (.list ((belF fam x).map .int))) (ho : Hb[oi]? = some (.list (dn.map .int)))
    {lo : Lo} (l1 : lo "family" = some (.ref fi)) (l2 : lo "size" = some (.int fam.length)) (l3 : lo "drawn" = some (.ref dI)) (l4 : lo "below" = some (.ref b)) (l5 : lo "order" = some (.ref oi)) :
    Wp (seq (asg "rows" (lst a0)) (seq (asg "shares" (lst a0)) (seq (forL "i" 100 (fnc rangeD (ac (getV "size") a0)) dRow) dEnd))) ⟨lo, Hb⟩ fun f σ' => f = .ret (.bool true) := by
  have h6 := ok.six
  refine wp_s (ev_asgN (ev_lst ev_a0 (Nat.zero_le _))) (wp_s (ev_asgN (ev_lst ev_a0 (Nat.zero_le _))) ?_)
  dsimp only
  have eH : Hb ++ [AObj.list []] ++ [AObj.list []] = Hb ++ [AObj.list [], .list []] := by simp
  have el : (Hb ++ [AObj.list []]).length = Hb.length + 1 := by simp
  rw [eH, el]
  have R0 : RI Hb (Hb ++ [AObj.list [], .list []]) fam dr [] 0 := ⟨.app .., by simp, by simp, by simp⟩
  have L : LL fi dI b oi Hb.length (Hb.length + 1) fam.length (put (put lo "rows" (.ref Hb.length)) "shares" (.ref (Hb.length + 1))) :=
    ⟨(put_other (by decide)).trans ((put_other (by decide)).trans l1), (put_other (by decide)).trans ((put_other (by decide)).trans l2), (put_other (by decide)).trans ((put_other (by decide)).trans l3), (put_other (by decide)).trans ((put_other (by decide)).trans l4), (put_other (by decide)).trans ((put_other (by decide)).trans l5), (put_other (by decide)).trans put_same, put_same⟩
  generalize put (put lo "rows" (.ref Hb.length)) "shares" (.ref (Hb.length + 1)) = lo1 at L
  generalize Hb ++ [AObj.list [], .list []] = H1 at R0
  refine wp_seq ?_
  have hr : (H1 ++ [AObj.range 0 (fam.length : Int) 1])[H1.length]? = some (.range 0 (fam.length : Int) 1) := get_new
  have R1 := R0.over' (.app H1 [.range 0 (fam.length : Int) 1])
  refine wp_forL (ev_range L.size) (mk_range (n := fam.length) hr (range_up ⟨fam.length, by omega⟩)) ?_
  generalize H1 ++ [AObj.range 0 (fam.length : Int) 1] = H2 at hr R1
  refine (wp_loop (fun j σ => LL fi dI b oi Hb.length (Hb.length + 1) fam.length σ.lo ∧ ∃ rs : List Nat, rs.length = j ∧ RI Hb σ.H fam dr rs rs.length) fam.length ?_ ?_ fam.length 0 100 _ (by omega) (by omega) ⟨L, [], rfl, R1⟩).mono ?_
  · rintro j ⟨lo2, H3⟩ hj ⟨L2, rs, rfl, R3⟩
    refine ⟨.int (0 + (rs.length : Int) * 1), by unfold nxRange; rw [if_pos hj], ?_⟩
    refine wp_setVb ?_
    have Li : LL fi dI b oi Hb.length (Hb.length + 1) fam.length (put lo2 "i" (.int (0 + (rs.length : Int) * 1))) := LL.put L2 (by decide)
    refine (row_run ok hdr hdr2 hd6 hdn hsub hord hf hd hb hbl ho hj Li (by rw [put_same]; congr 2; omega) R3).mono ?_
    rintro f σ' ⟨rfl, L', rs', e, R'⟩
    exact ⟨.inl rfl, L', rs', e, R'⟩
  · rintro ⟨lo2, H3⟩ _
    unfold nxRange; rw [if_neg (by omega)]
  · rintro f ⟨lo2, H3⟩ ⟨rfl, L2, rs, e, R3⟩
    refine ⟨rfl, ?_⟩
    rw [e] at R3
    exact end_run ok hne hdb e L2 R3
end
end Mine
end

section
open PySem PySem.W PyProof.Rows
set_option autoImplicit false
set_option linter.unusedVariables false
set_option linter.unusedSimpArgs false
namespace Mine
theorem slice_run {a : Addr} {ns : List Int} {k : Nat} {g : Int → Int} {de : M AVal} {lo : Lo} {H : List AObj} (hs : lo "script" = some (.stat (.ref a))) (hk : k ≤ 24) (hde : ∀ lo' G y, lo' "x" = some (.int y) → de ⟨lo', G⟩ = some (.int (g y), ⟨lo', G⟩)) :
    dCompF [] (do let v ← getV "script"; sliceA a ns k v) "x" (pure true) de 100 ⟨lo, H⟩ = some (.ref (H.length + 1), ⟨lo, H ++ [.list ((ns.take k).map .int), .list (((ns.take k).map g).map .int)]⟩) := by
  have hdi : (do let v ← getV "script"; sliceA a ns k v : M AVal) ⟨lo, H⟩ = some (.ref H.length, ⟨lo, H ++ [.list ((ns.take k).map .int)]⟩) := by
    rw [ev_bind (ev_getV hs)]
    unfold sliceA
    dsimp only
    rw [if_pos rfl]; rfl
  have hlen : (ns.take k).length ≤ 24 := by rw [List.length_take]; omega
  rw [comp_run (onI fun y => some (g y)) hdi get_new (by simp; omega) (by simp; omega) (fun v hv G hG => by
    obtain ⟨y, hy, rfl⟩ := List.mem_map.mp hv
    refine ⟨rfl, fun z hz => ?_⟩
    cases hz
    exact hde _ _ y put_same)]
  rw [fm_onI1]
  simp
theorem fmod_ev {lo : Lo} {G : List AObj} {y m : Int} (hm : m ≠ 0) (h : lo "x" = some (.int y)) : bin (intsA fMod) (getV "x") (I m) ⟨lo, G⟩ = some (.int (y.fmod m), ⟨lo, G⟩) := by
  rw [ev_bin (ev_getV h) ev_I]
  exact ev_ints (by unfold fMod; rw [if_neg hm])
noncomputable def numsF (ns : List Int) : List Int := (ns.take 8).map (fun x => x.fmod 256) ++ [6, 3, 12]
noncomputable def drawnF (ns : List Int) : List Int := (ns.take 24).map (fun x => x.fmod 2001 - 1000) ++ [3, 1, 4, 1, 5, 9, 2]
theorem nums_run {a : Addr} {ns : List Int} {lo : Lo} {H : List AObj} (hs : lo "script" = some (.stat (.ref a))) : ∃ l H', dNums a ns ⟨lo, H⟩ = some (.ref l, ⟨lo, H'⟩) ∧ Over H H' ∧ H'[l]? = some (.list ((numsF ns).map .int)) := by
  have h1 := slice_run (a := a) (ns := ns) (k := 8) (g := fun x => x.fmod 256) (de := bin (intsA fMod) (getV "x") (I 256)) (lo := lo) (H := H) hs (by omega) (fun lo' G y h => fmod_ev (by omega) h)
  have h2 : lst (ac (I 6) (ac (I 3) (ac (I 12) a0))) ⟨lo, H ++ [.list ((ns.take 8).map .int), .list (((ns.take 8).map fun x => x.fmod 256).map .int)]⟩ = some (.ref (H.length + 2), ⟨lo, H ++ [.list ((ns.take 8).map .int), .list (((ns.take 8).map fun x => x.fmod 256).map .int), .list [.int 6, .int 3, .int 12]]⟩) := by
    rw [ev_lst (ev_ac ev_I (ev_ac ev_I (ev_ac ev_I ev_a0))) (by simp)]
    simp
  refine ⟨H.length + 3, H ++ [.list ((ns.take 8).map .int), .list (((ns.take 8).map fun x => x.fmod 256).map .int), .list [.int 6, .int 3, .int 12], .list ((numsF ns).map .int)], ?_, .app .., by simp⟩
  unfold dNums
  rw [ev_bin h1 h2, ev_addL (xs := ((ns.take 8).map fun x => x.fmod 256).map .int) (ys := [.int 6, .int 3, .int 12]) (by simp) (by simp) (by simp; omega)]
  simp [numsF]
theorem drawn_run {a : Addr} {ns : List Int} {lo : Lo} {H : List AObj} (hs : lo "script" = some (.stat (.ref a))) : ∃ l H', dDrawn a ns ⟨lo, H⟩ = some (.ref l, ⟨lo, H'⟩) ∧ Over H H' ∧ H'[l]? = some (.list ((drawnF ns).map .int)) := by
  have h1 := slice_run (a := a) (ns := ns) (k := 24) (g := fun x => x.fmod 2001 - 1000) (de := bin (intsA fSub) (bin (intsA fMod) (getV "x") (I 2001)) (I 1000)) (lo := lo) (H := H) hs (by omega) (fun lo' G y h => by
    rw [ev_bin (fmod_ev (by omega) h) ev_I]; exact ev_ints rfl)
  have h2 : lst (ac (I 3) (ac (I 1) (ac (I 4) (ac (I 1) (ac (I 5) (ac (I 9) (ac (I 2) a0))))))) ⟨lo, H ++ [.list ((ns.take 24).map .int), .list (((ns.take 24).map fun x => x.fmod 2001 - 1000).map .int)]⟩ =
      some (.ref (H.length + 2), ⟨lo, H ++ [.list ((ns.take 24).map .int), .list (((ns.take 24).map fun x => x.fmod 2001 - 1000).map .int), .list [.int 3, .int 1, .int 4, .int 1, .int 5, .int 9, .int 2]]⟩) := by
    rw [ev_lst (ev_ac ev_I (ev_ac ev_I (ev_ac ev_I (ev_ac ev_I (ev_ac ev_I (ev_ac ev_I (ev_ac ev_I ev_a0))))))) (by simp)]
    simp
  refine ⟨H.length + 3, H ++ [.list ((ns.take 24).map .int), .list (((ns.take 24).map fun x => x.fmod 2001 - 1000).map .int), .list [.int 3, .int 1, .int 4, .int 1, .int 5, .int 9, .int 2], .list ((drawnF ns).map .int)], ?_, .app .., by simp⟩
  unfold dDrawn
  rw [ev_bin h1 h2, ev_addL (xs := ((ns.take 24).map fun x => x.fmod 2001 - 1000).map .int) (ys := [.int 3, .int 1, .int 4, .int 1, .int 5, .int 9, .int 2]) (by simp) (by simp) (by simp; omega)]
  simp [drawnF]
theorem fm_filter (p : Int → Bool) (l : List Int) : l.filterMap (fun y => if p y then some y else none) = l.filter p := by
  induction l with
  | nil => rfl
  | cons y l ih =>
    rw [List.filterMap_cons, List.filter_cons]
    cases h : p y with
    | true => simp only [if_true, ih]
    | false => simp only [Bool.false_eq_true, if_false, ih]
section
variable {fam : List Int} {fi b : Nat}
theorem below_run (ok : FamOk fam) {lo : Lo} {H : List AObj} (lf : lo "family" = some (.ref fi)) (lb : lo "below" = some (.ref b)) (hf : H[fi]? = some (.list (fam.map .int))) (hb : H[b]? = some (.dict 0 [])) :
    Wp (forL "x" 100 (getV "family") dBelow) ⟨lo, H⟩ fun f σ' => f = .next ∧ (∀ y : Str, y ≠ "x" → σ'.lo y = lo y) ∧ Gro b H σ'.H ∧ ∃ (ep : Nat) (bl : Int → Nat), σ'.H[b]? = some (.dict ep (fam.map fun x => (x, .ref (bl x)))) ∧ ∀ x ∈ fam, σ'.H[bl x]? = some (.list ((belF fam x).map .int)) := by
  have h6 := ok.six
  refine wp_forL (ev_getN lf) (mk_list hf) ?_
  have nf : fi ≠ b := ne_obj hb hf (ne_tag (Nat.ne_of_beq_eq_false rfl))
  refine (wp_loop (fun j σ => (∀ y : Str, y ≠ "x" → σ.lo y = lo y) ∧ Gro b H σ.H ∧ ∃ (ep : Nat) (bl : Int → Nat), σ.H[b]? = some (.dict ep ((fam.take j).map fun x => (x, .ref (bl x)))) ∧ ∀ x ∈ fam.take j, σ.H[bl x]? = some (.list ((belF fam x).map .int))) fam.length ?_ ?_ fam.length 0 100 _ (by omega) (by omega) ?_).mono ?_
  · rintro j ⟨lo2, H2⟩ hj ⟨q1, q2, ep, bl, q3, q4⟩
    dsimp only at q1 q2 q3 q4
    have hf2 := q2.at hf nf
    refine ⟨_, nx_list hf2 hj, ?_⟩
    have hnj := not_take ok.nd hj
    have htk := take_snoc hj
    generalize fam[j] = x at hnj htk
    refine wp_setVb ?_
    have lx : put lo2 "x" (.int x) "x" = some (.int x) := put_same
    have lf2 : put lo2 "x" (.int x) "family" = some (.ref fi) := (put_other (by decide)).trans ((q1 _ (by decide)).trans lf)
    have lb2 : put lo2 "x" (.int x) "below" = some (.ref b) := (put_other (by decide)).trans ((q1 _ (by decide)).trans lb)
    have lall : ∀ y : Str, y ≠ "x" → put lo2 "x" (.int x) y = lo y := fun y hy => (put_other hy).trans (q1 y hy)
    generalize put lo2 "x" (.int x) = lo3 at lx lf2 lb2 lall
    have hcomp : dCompF ["x"] (getV "family") "y" (do if ← cmp (cmpI fun a b => a != b) (getV "y") (getV "x") then cmp eqI (callF fAndF (ac (getV "x") (ac (getV "y") a0))) (getV "y") else pure false) (getV "y") 100 ⟨lo3, H2⟩ = some (.ref H2.length, ⟨lo3, H2 ++ [.list ((belF fam x).map .int)]⟩) := by
      rw [comp_run (onI fun y => if (y != x && An x y == y) = true then some y else none) (ev_getV lf2) hf2 (by simp; omega) (by simp; omega) (fun v hv G hG => by
        obtain ⟨y, hy, rfl⟩ := List.mem_map.mp hv
        have a1 : put (loF ["x"] lo3) "y" (.int y) "x" = some (.int x) := by
          refine (put_other (by decide)).trans ?_
          unfold loF; rw [if_pos (by simp)]; exact lx
        have a2 : put (loF ["x"] lo3) "y" (.int y) "y" = some (.int y) := put_same
        generalize put (loF ["x"] lo3) "y" (.int y) = lo4 at a1 a2
        have e1 : cmp (cmpI fun a b => a != b) (getV "y") (getV "x") ⟨lo4, G⟩ = some (y != x, ⟨lo4, G⟩) := by rw [ev_cmp (ev_getV a2) (ev_getV a1)]; rfl
        have e2 : cmp eqI (callF fAndF (ac (getV "x") (ac (getV "y") a0))) (getV "y") ⟨lo4, G⟩ = some (An x y == y, ⟨lo4, G⟩) := by
          rw [ev_cmp (ev_callF (ev_ac (ev_getV a1) (ev_ac (ev_getV a2) ev_a0)) run_and) (ev_getV a2)]; rfl
        constructor
        · rw [ev_bind e1]
          cases h1 : (y != x) with
          | false => simp [onI, h1]; rfl
          | true =>
            rw [if_pos rfl, e2]
            cases h2 : (An x y == y) with
            | false => simp [onI, h1, h2]
            | true => simp [onI, h1, h2]
        · intro z hz
          have : z = .int y := by
            unfold onI at hz
            dsimp only at hz
            split at hz
            · cases hz; rfl
            · cases hz
          rw [this]; exact ev_getV a2)]
      rw [fm_onI, fm_filter]; rfl
    have hnew : (H2 ++ [AObj.list ((belF fam x).map .int)])[H2.length]? = some (.list ((belF fam x).map .int)) := get_new
    have b3 := get_app (l := [AObj.list ((belF fam x).map .int)]) q3
    have g3 := Gro.app b H2 [AObj.list ((belF fam x).map .int)]
    have q4' : ∀ z ∈ fam.take j, (H2 ++ [AObj.list ((belF fam x).map .int)])[bl z]? = some (.list ((belF fam z).map .int)) := fun z hz => get_app (q4 z hz)
    have hl : ((fam.take j).map fun x => (x, AVal.ref (bl x))).length ≤ 1000 := by rw [List.length_map, List.length_take]; omega
    unfold dBelow
    rw [wp_ev (ev_setI hcomp (ev_getV lb2) (ev_getV lx) (ev_setA (σ := ⟨lo3, H2 ++ [AObj.list ((belF fam x).map .int)]⟩) b3 hl))]
    dsimp only
    generalize H2 ++ [AObj.list ((belF fam x).map .int)] = H3 at hnew b3 g3 q4'
    have efu : ((fam.take j).map fun z => (z, AVal.ref (bl z))) = (fam.take j).map fun z => (z, AVal.ref (fu bl x H2.length z)) := List.map_congr_left fun z hz => by
      have : z ≠ x := fun q => hnj (q ▸ hz)
      rw [fu_ne this]
    refine ⟨.inl rfl, lall, (q2.trans g3).trans (.set ..), (if hasK ((fam.take j).map fun x => (x, AVal.ref (bl x))) x then ep else ep + 1), fu bl x H2.length, ?_, fun z hz => ?_⟩
    · rw [set_get b3, htk]
      have := storA_new (f := fun z => AVal.ref (fu bl x H2.length z)) hnj
      rw [← this, ← efu]
      simp only [fu_same]
    · rw [htk] at hz
      rcases List.mem_append.mp hz with hz | hz
      · have : z ≠ x := fun q => hnj (q ▸ hz)
        rw [fu_ne this]
        exact set_k (q4' z hz) b3 (ne_tag (Nat.ne_of_beq_eq_false rfl))
      · rw [List.mem_singleton.mp hz, fu_same]
        exact set_k hnew b3 (ne_tag (Nat.ne_of_beq_eq_false rfl))
  · rintro ⟨lo2, H2⟩ ⟨q1, q2, _⟩
    exact nx_listE (q2.at hf nf)
  · exact ⟨fun _ _ => rfl, .refl .., 0, fun _ => 0, by simpa using hb, by simp⟩
  · rintro f ⟨lo2, H2⟩ ⟨rfl, q1, q2, q3⟩
    simp only [List.take_length] at q3
    exact ⟨rfl, q1, q2, q3⟩
end
end Mine
end

section
open PySem PySem.W PyProof.Rows
set_option autoImplicit false
set_option linter.unusedVariables false
set_option linter.unusedSimpArgs false
namespace Mine
theorem nums_pos (ns : List Int) : ∀ x ∈ numsF ns, 0 ≤ x := fun x hx => by
  unfold numsF at hx
  rcases List.mem_append.mp hx with hx | hx
  · obtain ⟨y, _, rfl⟩ := List.mem_map.mp hx
    exact Int.fmod_nonneg_of_pos _ (by omega)
  · simp at hx; omega
theorem nums_len (ns : List Int) : (numsF ns).length < 100 := by
  unfold numsF
  simp; omega
theorem nums_ne (ns : List Int) : numsF ns ≠ [] := by unfold numsF; simp
theorem drawn_small (ns : List Int) : ∀ v ∈ drawnF ns, v.natAbs ≤ 1000 := fun x hx => by
  unfold drawnF at hx
  rcases List.mem_append.mp hx with hx | hx
  · obtain ⟨y, _, rfl⟩ := List.mem_map.mp hx
    have h1 := Int.fmod_nonneg_of_pos y (show (0 : Int) < 2001 by omega)
    have h2 := Int.fmod_lt_of_pos y (show (0 : Int) < 2001 by omega)
    omega
  · simp at hx; omega
theorem drawn_len (ns : List Int) : 0 < (drawnF ns).length ∧ (drawnF ns).length ≤ 100 := by
  unfold drawnF
  simp; omega
theorem law_plain (a : Addr) (ns : List Int) (h : ns.length ≤ 63) : ∃ H', runF (bd1 "script" [.stat (.ref a)]) (dLaw a ns) [] = some (.bool true, H') := by
  have goal : WF (runF (bd1 "script" [.stat (.ref a)]) (dLaw a ns)) [] fun v H' => v = .bool true := by
    refine wf_run (l := [("script", .stat (.ref a))]) rfl ?_
    have ok : FamOk (famP (numsF ns)) := famP_ok (nums_pos ns)
    have hne : famP (numsF ns) ≠ [] := famP_ne (nums_ne ns)
    have h6 := ok.six
    obtain ⟨l1, H1, e1, o1, hl1⟩ := nums_run (a := a) (ns := ns) (lo := loB [("script", .stat (.ref a))] fun _ => none) (H := []) lo1a
    obtain ⟨H2, fi, e2, o2, hf2⟩ := fam_run hl1 (nums_len ns)
    generalize famP (numsF ns) = fam at ok hne h6 hf2
    unfold dLaw
    refine wp_s (ev_asgN (ev_callF (ev_ac e1 ev_a0) e2)) ?_
    have k1 : put (loB [("script", .stat (.ref a))] fun _ => none) "family" (.ref fi) "script" = some (.stat (.ref a)) := (put_other (by decide)).trans lo1a
    have k2 : put (loB [("script", .stat (.ref a))] fun _ => none) "family" (.ref fi) "family" = some (.ref fi) := put_same
    generalize put (loB [("script", .stat (.ref a))] fun _ => none) "family" (.ref fi) = lo1 at k1 k2
    refine wp_s (ev_asgN (v := .int fam.length) (lo := lo1) (H := H2) (by rw [ev_fnc (ev_ac (ev_getV k2) ev_a0), ev_lenL hf2 (by simp; omega)]; simp)) ?_
    have m1 : put lo1 "size" (.int fam.length) "script" = some (.stat (.ref a)) := (put_other (by decide)).trans k1
    have m2 : put lo1 "size" (.int fam.length) "family" = some (.ref fi) := (put_other (by decide)).trans k2
    have m3 : put lo1 "size" (.int fam.length) "size" = some (.int fam.length) := put_same
    generalize put lo1 "size" (.int fam.length) = lo2 at m1 m2 m3
    obtain ⟨dI, H3, e3, o3, hd3⟩ := drawn_run (a := a) (ns := ns) (lo := lo2) (H := H2) m1
    have hf3 := o3.at hf2
    refine wp_s (ev_asgN e3) (wp_s (ev_asgN ev_newO) ?_)
    have n2 : put (put lo2 "drawn" (.ref dI)) "below" (.ref H3.length) "family" = some (.ref fi) := (put_other (by decide)).trans ((put_other (by decide)).trans m2)
    have n3 : put (put lo2 "drawn" (.ref dI)) "below" (.ref H3.length) "size" = some (.int fam.length) := (put_other (by decide)).trans ((put_other (by decide)).trans m3)
    have n4 : put (put lo2 "drawn" (.ref dI)) "below" (.ref H3.length) "drawn" = some (.ref dI) := (put_other (by decide)).trans put_same
    have n5 : put (put lo2 "drawn" (.ref dI)) "below" (.ref H3.length) "below" = some (.ref H3.length) := put_same
    generalize put (put lo2 "drawn" (.ref dI)) "below" (.ref H3.length) = lo3 at n2 n3 n4 n5
    refine wp_seq ?_
    refine (below_run ok n2 n5 (get_app hf3) get_new).mono ?_
    intro f ⟨lo4, H5⟩ hI
    refine (let Gol : Prop := _; (?_ : Gol))
    obtain ⟨rfl, q4, g5, epb, bl, hb5, hbl5⟩ := hI
    unfold Gol; clear Gol
    dsimp only at q4 g5 hb5 hbl5 ⊢
    refine ⟨rfl, ?_⟩
    have o5 := over_new g5
    have hf5 := o5.at hf3
    have hd5 := o5.at hd3
    have p2 := (q4 _ (by decide)).trans n2
    have p3 := (q4 _ (by decide)).trans n3
    have p4 := (q4 _ (by decide)).trans n4
    have p5 := (q4 _ (by decide)).trans n5
    generalize H3.length = b at hb5 p5
    clear q4 n2 n3 n4 n5 g5
    refine (let Gol : Prop := _; (?_ : Gol))
    obtain ⟨v, H6, eT, s, sd, d, ks, io, su, rfl, hks, hkl, R6⟩ := ts_run hb5 hbl5 ok.nd h6 (fun x _ => bel_nd ok x) (fun x _ => bel_six ok x) (fun x hx y hy => (bel_lt ok hx hy).1)
    obtain ⟨v, H7, eP, rfl, rd, hg7, hs7, hr7, R7⟩ := prep_run R6 (fun k _ y hy => by
      obtain ⟨y1, y2⟩ := List.mem_filter.mp hy
      exact ⟨(bel_lt ok y1 (of_decide_eq_true y2)).2.2, (hks y).mpr y1⟩) hkl (fun k => Nat.le_trans (List.length_filter_le ..) h6)
    unfold Gol; clear Gol
    refine wp_s (ev_asgN (ev_callF (ev_ac (ev_getN p5) ev_a0) eT)) ?_
    have r1 : put lo4 "sorter" (.ref s) "sorter" = some (.ref s) := put_same
    have r2 : put lo4 "sorter" (.ref s) "family" = some (.ref fi) := (put_other (by decide)).trans p2
    have r3 : put lo4 "sorter" (.ref s) "size" = some (.int fam.length) := (put_other (by decide)).trans p3
    have r4 : put lo4 "sorter" (.ref s) "drawn" = some (.ref dI) := (put_other (by decide)).trans p4
    have r5 : put lo4 "sorter" (.ref s) "below" = some (.ref b) := (put_other (by decide)).trans p5
    generalize put lo4 "sorter" (.ref s) = lo5 at r1 r2 r3 r4 r5
    refine wp_s (ev_exprs (ev_callM r1 R6.hs R6.hsd (at4_o (by decide)) ev_a0 eP)) (wp_s (ev_asgN (ev_lst ev_a0 (Nat.zero_le _))) ?_)
    dsimp only
    have R8 := R7.app [.list []]
    have hr8 := get_app (l := [AObj.list []]) hr7
    have ho8 : (H7 ++ [AObj.list []])[H7.length]? = some (.list []) := get_new
    have hor : H7.length ≠ rd := by have := (List.getElem?_eq_some_iff.mp hr7).1; omega
    have hso : ∀ k ∈ ks, su k ≠ H7.length := fun k hk => by have := (List.getElem?_eq_some_iff.mp (R7.succ k hk)).1; omega
    have hgo := R7.over.1
    generalize H7 ++ [AObj.list []] = H8 at R8 hr8 ho8
    generalize H7.length = oi at ho8 hor hso hgo
    have cnt0 : ∀ x, cnt (belF fam) [] x = ((belF fam x).length : Int) := fun x => by
      unfold cnt
      rw [List.filter_eq_self.mpr fun y _ => by simp]
    have I0 : LInv fam (belF fam) [] (ks.filter fun k => (if k ∈ fam then ((belF fam k).length : Int) else 0) == 0) (fun x => if x ∈ fam then ((belF fam x).length : Int) else 0) := by
      refine ⟨fun k hk => ?_, R7.nd.filter _, fun x => ?_, List.nodup_nil, by simp, by simp⟩
      · rw [if_pos hk, if_neg List.not_mem_nil, cnt0]
      · rw [List.mem_filter, hks, cnt0]
        constructor
        · rintro ⟨h1, h2⟩
          rw [if_pos h1] at h2
          exact ⟨h1, by simp, by simpa using h2⟩
        · rintro ⟨h1, _, h2⟩
          exact ⟨h1, by rw [if_pos h1]; simpa using h2⟩
    have s1 : put lo5 "order" (.ref oi) "sorter" = some (.ref s) := (put_other (by decide)).trans r1
    have s2 : put lo5 "order" (.ref oi) "order" = some (.ref oi) := put_same
    have s3 : put lo5 "order" (.ref oi) "family" = some (.ref fi) := (put_other (by decide)).trans r2
    have s4 : put lo5 "order" (.ref oi) "size" = some (.int fam.length) := (put_other (by decide)).trans r3
    have s5 : put lo5 "order" (.ref oi) "drawn" = some (.ref dI) := (put_other (by decide)).trans r4
    have s6 : put lo5 "order" (.ref oi) "below" = some (.ref b) := (put_other (by decide)).trans r5
    generalize put lo5 "order" (.ref oi) = lo6 at s1 s2 s3 s4 s5 s6
    refine wp_seq ?_
    refine (turns_run R8 I0 hr8 ho8 hg7 hgo hor hs7 hso hks h6 ok.nd (fun x _ => bel_nd ok x) (fun _ => rfl) (fun x hx y hy => bel_lt ok hx hy) s1 s2).mono ?_
    intro f ⟨lo7, H9⟩ hI
    refine (let Gol : Prop := _; (?_ : Gol))
    obtain ⟨rfl, q7, o9, dn, ho9, hd6, hdn, hsub, hord⟩ := hI
    unfold Gol; clear Gol
    dsimp only at q7 o9 ho9 ⊢
    refine ⟨rfl, ?_⟩
    refine (tail_run ok hne (drawn_small ns) (drawn_len ns).1 (drawn_len ns).2 hd6 hdn hsub hord (o9.at hf5) (o9.at hd5) (o9.at hb5) (fun x hx => o9.at (hbl5 x hx)) ho9
      ((q7 _ (by decide)).trans s3) ((q7 _ (by decide)).trans s4) ((q7 _ (by decide)).trans s5) ((q7 _ (by decide)).trans s6) ((q7 _ (by decide)).trans s2)).mono ?_
    rintro f σ' rfl
    exact ⟨_, rfl, rfl⟩
  obtain ⟨v, H', e, rfl⟩ := goal
  exact ⟨H', e⟩
end Mine
end

open PySem PySem.W PyProof.Rows
set_option Elab.async false
set_option maxRecDepth 100000
namespace Mine
theorem sim_lawF {prog : Program} {w : World} {h₀ : Heap} {P : Params} {k : Nat} (G : Gnd (KK P) h₀) {a : Addr} {vs : List Value} {ns : List Int} (hL : h₀.IsList a vs.toArray) (hI : IntsAre vs ns) (hsz : vs.length ≤ 1000) (us : List AVal) :
    SimF prog w h₀ (k + 7) (.ref 195) us (runF (bd1 "script" us) (dLaw a ns)) :=
  fn_ok G (by kernel_rfl) (bs1 fun c => by kernel_rfl) (kind1 (.inl (by kernel_rfl))) (sim_law G hL hI hsz)
theorem ints_len {vs : List Value} {ns : List Int} (h : IntsAre vs ns) : vs.length = ns.length := by
  induction h with
  | nil => rfl
  | cons n t _ ih => simp [ih]
theorem law_core {prog : Program} {w : World} {s : Shared} {a : Addr} {vs : List Value} {ns : List Int} {R : Result → Shared → Prop} (G : Gnd (KK w.params) s.heap) (hL : s.heap.IsList a vs.toArray) (hI : IntsAre vs ns) (hn : ns.length ≤ 63)
    (kk : ∀ h' tk, (∀ b o, s.heap.get? b = some o → h'.get? b = some o) → R (.ok (.ret (.bool true))) { s with heap := h', toks := tk }) :
    codeAny (model prog w) callerA (.call (.ref 195) ⟨[.ref a], []⟩) R s := by
  obtain ⟨H', e⟩ := law_plain a ns hn
  have hbig : ∃ o, s.heap.get? cStatics = some o := by
    have : ((KK w.params).lookup cStatics).isSome = true := by kernel_rfl
    obtain ⟨o, e⟩ := Option.isSome_iff_exists.mp this
    exact ⟨o, G.X _ _ e⟩
  have r : RelH prog w s.heap [] [] s.heap := ⟨fun _ _ e => e, rfl, List.nodup_nil, fun i o a e => by simp at e, fun a h => by simp at h, fun a h => by simp at h, hbig⟩
  refine sim_lawF (k := 0) G hL hI (by rw [ints_len hI]; omega) [.stat (.ref a)] callerA s [] [] [.ref a] ⟨fun _ => rfl, by decide, by decide⟩ r ⟨[], rfl, fun e he => by simp at he⟩ (.cons rfl .nil) _ H' e R fun c h' tk ρ' hv r' st => ?_
  cases hv
  exact kk h' tk r'.keep
end Mine
set_option maxHeartbeats 8000000 in
theorem PySem.Challenge.cw_om0086_01_holds : PySem.Challenge.rw_om0086_01.Holds :=
  holds_law Mine.Hd.hd_said fun said => holds_open (r := PySem.Challenge.rw_om0086_01.row) (q := Mine.Hd.vw) (loose := Mine.Hd.lo) (Xt := fun s => xlAt Mine.Hd.vw [] s && recOk PySem.Challenge.rw_om0086_01.row.records s) (XP := XL Mine.Hd.vw []) (Yf := Mine.Hd.hdH.obs) (Ya := Mine.Hd.hdH.val) (YP := Mine.Hd.hdH.says) (N := 2804)
  Mine.Hd.hd_left Mine.Hd.hdH.of Mine.Hd.hdH.keeps (fun s e => xl_of s (Bool.and_eq_true_iff.mp e).1) XL.keeps (by rfl) (by rfl) (by rfl) (fun s e => recFacts_of (Bool.and_eq_true_iff.mp e).2) (by rfl) said Mine.Hd.hd_ok ⟨rfl, rfl, rfl, rfl, rfl, Mine.Hd.hd_bare⟩ ⟨[.list []], by decide +kernel, by decide +kernel⟩ (by
  intro w s₀ s₁ mg mb G Y fa o pm cd doc dV kV ho hd hcd hD hmg hg args vals as hpre hlay hrd hwl hlo
  have KX := kIn_of Y
  refine Ground.open G ?_
  intro T B D TE TW
  wrow_args hpre hlay hrd hwl hlo
  rename_i ns _ _ _ _ _ _ _ a vs _ hL _ _ _ hI _ h63 _
  refine enter_call ?_
  have hfa : mg "law" = some (.ref 195) := mg_of KX T.g (by kernel_rfl)
  have hmg' : mg "law" = some (.ref fa) := hmg
  rw [hfa] at hmg'
  cases hmg'
  have GG : Mine.Gnd (Mine.KK w.params) s₁.heap := ⟨KX, ⟨mg, T.g⟩, ⟨mb, T.b, fun x hx => T.builtins x hx⟩, T.nolimit⟩
  refine Mine.law_core GG hL hI (by omega) fun h' tk hk => ?_
  exact ⟨.inl ⟨_, .bool true, [], rfl, fun cls => rfl, .bool true, postW_of (X := true) (by first | rfl | kernel_rfl) (by first | rfl | kernel_rfl | (simp [WTm.value])) rfl, fun _ => ⟨List.nodup_nil, fun a h => by simp at h⟩⟩, .of_keep hk, rfl, .of_eq hg⟩)
